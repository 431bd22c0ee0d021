import JvmDerived
import JvmDerived.Pilot.@@N@@Statement
import JvmDerived.Pilot.@@N@@Code
set_option linter.unusedVariables false
set_option linter.unusedSimpArgs false
@@BLOCK:NumsL.lean.txt@@
namespace Jvm.RoadKit
open Sem ClassFile Op Lib Jvm.Stand Jvm.Free Jvm.LawKit
section New
variable {p : Program} {l : Launch} {e : Env} {R : Room} {s : State} {m : MethodId} {args : Array Value} {below : List Frame} {meth : Method} {c : Code} {T : State} {locs : List Loc} {cells slots : Nat}
theorem retI (X : Stand p l e R s m args below meth c T locs cells slots) (hx : p.tables.exec = Jvm.exec) {pc : Nat} {Ls : Array Slot} {z : Int32} {rest : List Value} (hret : meth.sig.returnType = some .int) (hd : decode c.code pc = .ok (.ireturn, 1)) {fs : List Frame}
    (hl : ∀ (f : JFrame) (acts : List Action), f.method = m → f.locked = none → f.entered = [] → (doReturn e (T.setTop f) acts (some (.int z))).1 = T.setFrames fs) : Steps p.tables e below (T.setTop (mkF m pc Ls (.int z :: rest))) (T.setFrames fs) := by
  have hm' : T.vm.method? m = some meth := X.method'
  have hn : narrow .int (.int z) = .int z := rfl
  show Steps p.tables e below (T.setTop { method := m, pc := pc, locals := Ls, stack := _ :: rest, locked := none }) _
  jvm_step X.here [X.here.top, hx, hd, hm', hret, hn]
  first | (intro acts; rw [hl _ acts rfl rfl rfl]) | rw [hl _ _ rfl rfl rfl]
  exact Steps.refl _
end New
end Jvm.RoadKit
namespace Jvm.Pilot.@@N@@
open Jvm Jvm.ClassFile Sem Op Lib Jvm.Free Jvm.Stand Jvm.LawKit Jvm.RoadKit Bundle Jvm.Pilot.@@N@@.Jvm.D
theorem own_fld_ne {Z : State} {h : Heap} {a b : Addr} {C n d : String} {v w : Value} (F : Fld Z h a C n d v) (G : Fld Z h b C n d w) (q : v ≠ w) : a ≠ b := fun e => by
  subst e
  obtain ⟨c1, cf1, k1, i1, f1, a1, a2, -, -, -, -, a7⟩ := F
  obtain ⟨c2, cf2, k2, i2, f2, b1, b2, -, -, -, -, b7⟩ := G
  cases a1.symm.trans b1
  cases a2.symm.trans b2
  exact q (Option.some.inj (a7.symm.trans b7))
theorem own_fldI {args : Array Value} {s : State} {t : Term} {a : Addr} {C n d : String} {k : Int32} (ht : t.eval args s none [] s = some (.ref a)) (h : (Jvm.Cond.eq (Term.field t C n d) (Term.int k)).value args s none s [] = some true) : Fld s s.heap a C n d (.int k) := by
  apply Fld.start
  have e1 : (Term.field t C n d).eval args s none [] s = s.fieldOf? a C n d := fld_at ht
  have e2 : (Term.int k).eval args s none [] s = some (.int k) := Term.int_eval k
  simp only [Cond.value, e1, e2] at h
  split at h <;> simp_all
theorem own_nm0 {a : Addr} : a ∉ ([] : List Addr) := List.not_mem_nil
theorem own_nm1 {a x : Addr} (h : a ≠ x) : a ∉ [x] := fun q => h (List.mem_singleton.mp q)
theorem own_nm2 {a x y : Addr} (h : a ≠ x) (h2 : a ≠ y) : a ∉ [x, y] := fun q => by
  rcases List.mem_cons.mp q with q | q
  · exact h q
  · exact h2 (List.mem_singleton.mp q)
theorem own_nm3 {a x y z : Addr} (h : a ≠ x) (h2 : a ≠ y) (h3 : a ≠ z) : a ∉ [x, y, z] := fun q => by
  rcases List.mem_cons.mp q with q | q
  · exact h q
  · exact own_nm2 h2 h3 q
theorem own_all0 {P : Addr → Prop} : ∀ x ∈ ([] : List Addr), P x := fun x q => (List.not_mem_nil q).elim
theorem own_all1 {P : Addr → Prop} {a : Addr} (h : P a) : ∀ x ∈ [a], P x := fun x q => by rw [List.mem_singleton.mp q]; exact h
theorem own_all2 {P : Addr → Prop} {a b : Addr} (h : P a) (h2 : P b) : ∀ x ∈ [a, b], P x := fun x q => by
  rcases List.mem_cons.mp q with q | q
  · rw [q]; exact h
  · rw [List.mem_singleton.mp q]; exact h2
theorem own_all3 {P : Addr → Prop} {a b c : Addr} (h : P a) (h2 : P b) (h3 : P c) : ∀ x ∈ [a, b, c], P x := fun x q => by
  rcases List.mem_cons.mp q with q | q
  · rw [q]; exact h
  · exact own_all2 h2 h3 x q
theorem own_rem1 (x : Int32) : ((x &&& (2147483647 : Int32)) - ((x &&& (2147483647 : Int32)) / (1 : Int32)) * (1 : Int32)) = (0 : Int32) := by
  rw [Int32.div_one, Int32.mul_one, Int32.sub_self]
theorem own_rem2 (x : Int32) : ((x &&& (2147483647 : Int32)) - ((x &&& (2147483647 : Int32)) / (2 : Int32)) * (2 : Int32)) = (0 : Int32) ∨ ((x &&& (2147483647 : Int32)) - ((x &&& (2147483647 : Int32)) / (2 : Int32)) * (2 : Int32)) = (1 : Int32) := by
  have e : (x &&& (2147483647 : Int32)).toInt = x.toInt % 2 ^ 31 := Jvm.Kit.i32_mask x _ (k := 31) (by decide) (by decide)
  generalize (x &&& (2147483647 : Int32)) = y at *
  have c : ((2 : Int32)).toInt = 2 := by decide
  have d : (y / (2 : Int32)).toInt = y.toInt / 2 := by rw [Jvm.Kit.i32_div (by rw [c]; omega), c, Int.tdiv_eq_ediv_of_nonneg (by omega)]
  have m : ((y / (2 : Int32)) * (2 : Int32)).toInt = y.toInt / 2 * 2 := by rw [Jvm.Kit.i32_mul (by rw [c, d]; omega) (by rw [c, d]; omega), c, d]
  have r : (y - (y / (2 : Int32)) * (2 : Int32)).toInt = y.toInt - y.toInt / 2 * 2 := by rw [Jvm.Kit.i32_sub (by rw [m]; omega) (by rw [m]; omega), m]
  have h : (y - (y / (2 : Int32)) * (2 : Int32)).toInt = 0 ∨ (y - (y / (2 : Int32)) * (2 : Int32)).toInt = 1 := by omega
  rcases h with h | h
  · exact Or.inl (Int32.toInt_inj.mp h)
  · exact Or.inr (Int32.toInt_inj.mp h)
theorem own_rem3 (x : Int32) : ((x &&& (2147483647 : Int32)) - ((x &&& (2147483647 : Int32)) / (3 : Int32)) * (3 : Int32)) = (0 : Int32) ∨ ((x &&& (2147483647 : Int32)) - ((x &&& (2147483647 : Int32)) / (3 : Int32)) * (3 : Int32)) = (1 : Int32) ∨ ((x &&& (2147483647 : Int32)) - ((x &&& (2147483647 : Int32)) / (3 : Int32)) * (3 : Int32)) = (2 : Int32) := by
  have e : (x &&& (2147483647 : Int32)).toInt = x.toInt % 2 ^ 31 := Jvm.Kit.i32_mask x _ (k := 31) (by decide) (by decide)
  generalize (x &&& (2147483647 : Int32)) = y at *
  have c : ((3 : Int32)).toInt = 3 := by decide
  have d : (y / (3 : Int32)).toInt = y.toInt / 3 := by rw [Jvm.Kit.i32_div (by rw [c]; omega), c, Int.tdiv_eq_ediv_of_nonneg (by omega)]
  have m : ((y / (3 : Int32)) * (3 : Int32)).toInt = y.toInt / 3 * 3 := by rw [Jvm.Kit.i32_mul (by rw [c, d]; omega) (by rw [c, d]; omega), c, d]
  have r : (y - (y / (3 : Int32)) * (3 : Int32)).toInt = y.toInt - y.toInt / 3 * 3 := by rw [Jvm.Kit.i32_sub (by rw [m]; omega) (by rw [m]; omega), m]
  have h : (y - (y / (3 : Int32)) * (3 : Int32)).toInt = 0 ∨ (y - (y / (3 : Int32)) * (3 : Int32)).toInt = 1 ∨ (y - (y / (3 : Int32)) * (3 : Int32)).toInt = 2 := by omega
  rcases h with h | h | h
  · exact Or.inl (Int32.toInt_inj.mp h)
  · exact Or.inr (Or.inl (Int32.toInt_inj.mp h))
  · exact Or.inr (Or.inr (Int32.toInt_inj.mp h))
theorem pn_0 : plainName "org/reachwatch/IntBlocksSetPinLaw" = true := by first | (simp [plainName, overriddenIn]; done) | decide +kernel
theorem ef_1 (m : MethodId) (x0 : Int32) (x1 : Int32) (x2 : Int32) (x3 : Int32) (x4 : Int32) (x5 : Int32) : entryFrame m #[(.int x0), (.int x1), (.int x2), (.int x3), (.int x4), (.int x5)] maxLocals = mkF m 0 #[.val (.int x0), .val (.int x1), .val (.int x2), .val (.int x3), .val (.int x4), .val (.int x5), .unset, .unset, .unset, .unset, .unset, .unset, .unset] [] := by first | (simp [entryFrame, mkF, argsToLocals, Value.category, maxLocals]; done) | rfl
theorem d1_0 : decode prog_56_method_1_code 0 = .ok (.aload_n 0, 1) := by decide +kernel
theorem d1_1 : decode prog_56_method_1_code 1 = .ok (.invokespecial 3, 3) := by decide +kernel
theorem d1_4 : decode prog_56_method_1_code 4 = .ok (.aload_n 0, 1) := by decide +kernel
theorem d1_5 : decode prog_56_method_1_code 5 = .ok (.iconst 1, 1) := by decide +kernel
theorem d1_6 : decode prog_56_method_1_code 6 = .ok (.anewarray 9, 3) := by decide +kernel
theorem d1_9 : decode prog_56_method_1_code 9 = .ok (.putfield 11, 3) := by decide +kernel
theorem d1_12 : decode prog_56_method_1_code 12 = .ok (.return_, 1) := by decide +kernel
theorem pn_2 : plainName "org/reachwatch/IntBlocks" = true := by first | (simp [plainName, overriddenIn]; done) | decide +kernel
theorem ef_3 (m : MethodId) (x0 : Addr) : entryFrame m #[(.ref x0)] 1 = mkF m 0 #[.val (.ref x0)] [] := by first | (simp [entryFrame, mkF, argsToLocals, Value.category]; done) | rfl
def Q_init1_0 (Z : State) (b4 : Addr) (h0 : Heap) (n0 : Nat) (v : Option Value) (h : Heap) (L : List Loc) : Prop := ∃ (b51 : Addr) (k51 : ClassId), v = none ∧ Fr n0 L ∧ Keep h0 h [b4] ∧ Old Z n0 h ∧ Exa Z h b4 "org/reachwatch/IntBlocks" ∧ Fld Z h b4 "org/reachwatch/IntBlocks" "size" "I" (.int (0 : Int32)) ∧ Arv Z h b51 k51 (.array .int) (1 : Int32) [.null] .null ∧ OvrA Z k51 .int "[I" ∧ Exa Z h b51 "[[I" ∧ Fld Z h b4 "org/reachwatch/IntBlocks" "blocks" "[[I" (.ref b51) ∧ (h0.size ≤ b51)
set_option maxRecDepth 65536 in
set_option maxHeartbeats 40000000 in
theorem rm_init1_0 (l : Launch) (Z : State) (a0 : Array Value) (hw : ∀ d ∈ tables_1, d.before a0 Z = true) (ws : List Jvm.Cond) (b4 : Addr) (h0 : Heap) (n0 : Nat) (O0 : Old Z n0 h0) (g_b4 : n0 ≤ b4) (Fi0 : Exa Z h0 b4 "org/reachwatch/IntBlocks") (Fi1 : Fld Z h0 b4 "org/reachwatch/IntBlocks" "blocks" "[[I" .null) (Fi2 : Fld Z h0 b4 "org/reachwatch/IntBlocks" "size" "I" (.int (0 : Int32))) :
    MetFree l (⟨"org/reachwatch/IntBlocks", "<init>", "()V"⟩ : MethodName) (head1 (Jvm.Cond.code (⟨"org/reachwatch/IntBlocks", "<init>", "()V"⟩ : MethodName) prog_56_method_1_code 1 none :: ws) ({ frames := 1, cells := 1, slots := 1, locals := 12 } : Room)) (fun a U => a = #[(.ref b4)] ∧ Z.Warmed39 U.vm ∧ U.heap = h0) (fun _ _ _ _ _ => True) (fun _ U o U' => ∃ v L, o = .returned v ∧ Q_init1_0 Z b4 h0 n0 v U'.heap L ∧ FrameEnd U o U' L ({ frames := 1, cells := 1, slots := 1, locals := 12 } : Room).cells ({ frames := 1, cells := 1, slots := 1, locals := 12 } : Room).slots) := by
  refine MetFree.of_bodySF (plainFor_of_name pn_2) hisR ?_
  intro p e s m args below meth c s₁ Bd hml0 hP hK
  have W := fun {d : Jvm.Cond} (i : Nat) (q : tables_1[i]? = some d) => hw d (List.mem_of_getElem? q)
  obtain ⟨rfl, hZ, hh⟩ := hP
  have hx := Bd.exec
  have hby := Bd.bytes
  have hml : c.maxLocals = 1 := hml0
  have hown : s.vm.findClass "org/reachwatch/IntBlocks" = some m.cls := findClass_of_methodNamed Bd.named
  have hnm := (name_of_methodNamed Bd.named Bd.method).1
  have X0 : Stand p l e ({ frames := 1, cells := 1, slots := 1, locals := 12 } : Room) s m #[(.ref b4)] below meth c s₁ [] 0 0 := Stand.of_body Bd
  have e0 : s₁.heap = h0 := by rw [← hh, Bd.state]; rfl
  have N0 := Fr.nil n0
  have pre0 : ∀ t, Steps p.tables e below (s₁.setTop (mkF m 0 #[rv b4] [])) t → Steps p.tables e below (s₁.setTop (entryFrame m #[(.ref b4)] 1)) t := fun t k => castTop (ef_3 m b4) k
  have K0 : Keep h0 h0 [b4] := Keep.refl h0 [b4]
  have pre47 : ∀ t, Steps p.tables e below (s₁.setTop (mkF m 1 #[rv b4] [(.ref b4)])) t → Steps p.tables e below (s₁.setTop (entryFrame m #[(.ref b4)] 1)) t := fun t kt => by
    refine pre0 _ ?_
    show Steps p.tables e below (s₁.setTop (mkF m 0 #[rv b4] [])) _
    refine XS.aloadN X0.here hx rfl (hb hby d1_0) rfl rfl ?_
    exact kt
  obtain ⟨T48, X48, e48, st48⟩ := initO X0 hx hZ hown (W 7 rfl) (W 8 rfl) (W 9 rfl) e0 (g := (mkF m 1 #[rv b4] [(.ref b4)])) rfl (by rw [hml]; rfl) rfl (hb hby d1_1) (by decide) (W := 0) (by show 2 * 0 + _ ≤ _; exact Nat.le_of_eq rfl) (by decide)
  have pre49 : ∀ t, Steps p.tables e below (T48.setTop (mkF m 4 #[rv b4] [])) t → Steps p.tables e below (s₁.setTop (entryFrame m #[(.ref b4)] 1)) t := fun t kt => pre47 _ (st48 _ kt)
  have pre50 : ∀ t, Steps p.tables e below (T48.setTop (mkF m 6 #[rv b4] [(.int (1 : Int32)), (.ref b4)])) t → Steps p.tables e below (s₁.setTop (entryFrame m #[(.ref b4)] 1)) t := fun t kt => by
    refine pre49 _ ?_
    show Steps p.tables e below (T48.setTop (mkF m 4 #[rv b4] [])) _
    refine XS.aloadN X48.here hx rfl (hb hby d1_4) rfl rfl ?_
    show Steps p.tables e below (T48.setTop (mkF m 5 #[rv b4] [(.ref b4)])) _
    refine XS.iconst X48.here hx rfl (hb hby d1_5) ?_
    exact kt
  obtain ⟨T51, h51, k51, X51, e51, E51, A51, B51, V51, st51⟩ := newRA X48 hx hZ hown (C := "[I") (ty := .int) (by decide) (W 10 rfl) (W 11 rfl) e48 (g := (mkF m 6 #[rv b4] [(.int (1 : Int32)), (.ref b4)])) rfl (hb hby d1_6) rfl (by decide) (cap := 1) (by decide) (by decide) (by decide) (by decide) (ad := "[[I") (by decide)
  obtain ⟨b51, g51⟩ : ∃ z, z = h0.size := ⟨_, rfl⟩
  rw [← g51] at A51 B51 st51
  have pre52 : ∀ t, Steps p.tables e below (T51.setTop (mkF m 9 #[rv b4] [(.ref b51), (.ref b4)])) t → Steps p.tables e below (s₁.setTop (entryFrame m #[(.ref b4)] 1)) t := fun t kt => pre50 _ (st51 _ kt)
  have O51 := O0.ext E51
  have K51 : Keep h0 h51 [b4] := K0.ext E51
  have F53 := Fi0.ext E51
  have F54 := Fi1.ext E51
  have F55 := Fi2.ext E51
  have g_b51 : n0 ≤ b51 := Nat.le_trans (Nat.le_trans (Nat.le_of_eq O0.1.symm) O0.2.1) (Nat.le_of_eq g51.symm)
  have sz_b51 : h0.size ≤ b51 := Nat.le_trans K0.1 (Nat.le_of_eq g51.symm)
  have ne_b4_b51 : b4 ≠ b51 := Nat.ne_of_lt (Nat.lt_of_lt_of_le Fi0.lt (Nat.le_of_eq g51.symm))
  have F56 : Arv Z h51 b51 k51 (.array .int) (1 : Int32) [.null] .null := (Arv.new A51 (by decide)).pad (pad_rep [] .null 1)
  have F57 : Exa Z h51 b51 "[[I" := B51
  obtain ⟨T58, h58, X58, e58, W58, st58⟩ := putF X51 hx hZ hown (host := "") (Or.inl (W 12 rfl)) Via.refl e51 F54 F53 (Or.inl (W 13 rfl)) (W 2 rfl) (ty := (.array (.array .int))) (by decide) rfl rfl (g := (mkF m 9 #[rv b4] [(.ref b51), (.ref b4)])) rfl rfl (hb hby d1_9)
  have pre59 : ∀ t, Steps p.tables e below (T58.setTop (mkF m 12 #[rv b4] [])) t → Steps p.tables e below (s₁.setTop (entryFrame m #[(.ref b4)] 1)) t := fun t kt => pre52 _ (st58 _ kt)
  have N58 := Fr.snoc X58 N0 g_b4
  have O58 := O51.wr W58 g_b4
  have K58 : Keep h0 h58 [b4] := K51.wr W58 (Or.inl (List.mem_of_getElem? (i := 0) rfl))
  have F60 := F53.wr W58
  have F61 := F55.other W58 (Or.inr (slot_ne (Or.inl (W 20 rfl)) (Or.inl (W 13 rfl)) (by decide) (t := .int) (t' := (.array (.array .int))) (by decide) (by decide)))
  have F62 := F56.other W58 (fun q => ne_b4_b51 q.symm)
  have F63 := F57.wr W58
  have F64 : Fld Z h58 b4 "org/reachwatch/IntBlocks" "blocks" "[[I" (.ref b51) := F54.same W58
  obtain ⟨fs, hr, hrun, hended, hW, hsame⟩ := X58.leave (v := none) (fun _ => rfl)
  refine ⟨_, _, pre59 _ (X58.returnOut hx Bd.returns (hb hby d1_12) hr), hrun, hended, _, _, rfl, ?_, ⟨_, rfl⟩, hW, hsame.mono (by decide) (by decide)⟩
  show Q_init1_0 Z b4 h0 n0 _ T58.heap _
  rw [e58]
  exact ⟨b51, k51, rfl, N58, K58, O58, F60, F61, F62, V51, F63, F64, sz_b51⟩
theorem pd_4 : parseMethodDescriptor "()V" = some ⟨[], none⟩ := by decide +kernel
theorem d3_0 : decode prog_56_method_2_code 0 = .ok (.aload_n 0, 1) := by decide +kernel
theorem d3_1 : decode prog_56_method_2_code 1 = .ok (.getfield 17, 3) := by decide +kernel
theorem d3_4 : decode prog_56_method_2_code 4 = .ok (.ldc 21, 2) := by decide +kernel
theorem d3_6 : decode prog_56_method_2_code 6 = .ok (.idiv, 1) := by decide +kernel
theorem d3_7 : decode prog_56_method_2_code 7 = .ok (.istore_n 2, 1) := by decide +kernel
theorem d3_8 : decode prog_56_method_2_code 8 = .ok (.aload_n 0, 1) := by decide +kernel
theorem d3_9 : decode prog_56_method_2_code 9 = .ok (.getfield 17, 3) := by decide +kernel
theorem d3_12 : decode prog_56_method_2_code 12 = .ok (.ldc 21, 2) := by decide +kernel
theorem d3_14 : decode prog_56_method_2_code 14 = .ok (.irem, 1) := by decide +kernel
theorem d3_15 : decode prog_56_method_2_code 15 = .ok (.istore_n 3, 1) := by decide +kernel
theorem d3_16 : decode prog_56_method_2_code 16 = .ok (.iload_n 2, 1) := by decide +kernel
theorem d3_17 : decode prog_56_method_2_code 17 = .ok (.aload_n 0, 1) := by decide +kernel
theorem d3_18 : decode prog_56_method_2_code 18 = .ok (.getfield 11, 3) := by decide +kernel
theorem d3_21 : decode prog_56_method_2_code 21 = .ok (.arraylength, 1) := by decide +kernel
theorem d3_22 : decode prog_56_method_2_code 22 = .ok (.if_icmp .ne 20, 3) := by decide +kernel
theorem d3_42 : decode prog_56_method_2_code 42 = .ok (.aload_n 0, 1) := by decide +kernel
theorem d3_43 : decode prog_56_method_2_code 43 = .ok (.getfield 11, 3) := by decide +kernel
theorem d3_46 : decode prog_56_method_2_code 46 = .ok (.iload_n 2, 1) := by decide +kernel
theorem d3_47 : decode prog_56_method_2_code 47 = .ok (.aaload, 1) := by decide +kernel
theorem d3_48 : decode prog_56_method_2_code 48 = .ok (.ifnonnull 25, 3) := by decide +kernel
theorem d3_51 : decode prog_56_method_2_code 51 = .ok (.aload_n 0, 1) := by decide +kernel
theorem d3_52 : decode prog_56_method_2_code 52 = .ok (.getfield 11, 3) := by decide +kernel
theorem d3_55 : decode prog_56_method_2_code 55 = .ok (.iload_n 2, 1) := by decide +kernel
theorem d3_56 : decode prog_56_method_2_code 56 = .ok (.iload_n 2, 1) := by decide +kernel
theorem d3_57 : decode prog_56_method_2_code 57 = .ok (.ifCond .ne 8, 3) := by decide +kernel
theorem d3_60 : decode prog_56_method_2_code 60 = .ok (.bipush 16, 2) := by decide +kernel
theorem d3_62 : decode prog_56_method_2_code 62 = .ok (.goto 5, 3) := by decide +kernel
theorem d3_67 : decode prog_56_method_2_code 67 = .ok (.newarray .int, 2) := by decide +kernel
theorem d3_69 : decode prog_56_method_2_code 69 = .ok (.aastore, 1) := by decide +kernel
theorem d3_70 : decode prog_56_method_2_code 70 = .ok (.goto 32, 3) := by decide +kernel
theorem d3_102 : decode prog_56_method_2_code 102 = .ok (.aload_n 0, 1) := by decide +kernel
theorem d3_103 : decode prog_56_method_2_code 103 = .ok (.getfield 11, 3) := by decide +kernel
theorem d3_106 : decode prog_56_method_2_code 106 = .ok (.iload_n 2, 1) := by decide +kernel
theorem d3_107 : decode prog_56_method_2_code 107 = .ok (.aaload, 1) := by decide +kernel
theorem d3_108 : decode prog_56_method_2_code 108 = .ok (.iload_n 3, 1) := by decide +kernel
theorem d3_109 : decode prog_56_method_2_code 109 = .ok (.iload_n 1, 1) := by decide +kernel
theorem d3_110 : decode prog_56_method_2_code 110 = .ok (.iastore, 1) := by decide +kernel
theorem d3_111 : decode prog_56_method_2_code 111 = .ok (.aload_n 0, 1) := by decide +kernel
theorem d3_112 : decode prog_56_method_2_code 112 = .ok (.dup, 1) := by decide +kernel
theorem d3_113 : decode prog_56_method_2_code 113 = .ok (.getfield 17, 3) := by decide +kernel
theorem d3_116 : decode prog_56_method_2_code 116 = .ok (.iconst 1, 1) := by decide +kernel
theorem d3_117 : decode prog_56_method_2_code 117 = .ok (.iadd, 1) := by decide +kernel
theorem d3_118 : decode prog_56_method_2_code 118 = .ok (.putfield 17, 3) := by decide +kernel
theorem d3_121 : decode prog_56_method_2_code 121 = .ok (.return_, 1) := by decide +kernel
theorem ef_5 (m : MethodId) (x0 : Addr) (x1 : Int32) : entryFrame m #[(.ref x0), (.int x1)] 4 = mkF m 0 #[.val (.ref x0), .val (.int x1), .unset, .unset] [] := by first | (simp [entryFrame, mkF, argsToLocals, Value.category]; done) | rfl
def Q_add3_0 (Z : State) (b4 : Addr) (p0 : Int32) (b51_10 : Addr) (k51_10 : ClassId) (h0 : Heap) (n0 : Nat) (v : Option Value) (h : Heap) (L : List Loc) : Prop := ∃ (b221 : Addr) (k221 : ClassId), v = none ∧ Fr n0 L ∧ Keep h0 h [b4, b51_10] ∧ Old Z n0 h ∧ Exa Z h b4 "org/reachwatch/IntBlocks" ∧ Exa Z h b51_10 "[[I" ∧ Fld Z h b4 "org/reachwatch/IntBlocks" "blocks" "[[I" (.ref b51_10) ∧ Exa Z h b221 "[I" ∧ Arv Z h b51_10 k51_10 (.array .int) (1 : Int32) [(.ref b221)] .null ∧ Arv Z h b221 k221 .int (16 : Int32) [(.int p0), (.int (0 : Int32)), (.int (0 : Int32)), (.int (0 : Int32)), (.int (0 : Int32)), (.int (0 : Int32)), (.int (0 : Int32)), (.int (0 : Int32)), (.int (0 : Int32)), (.int (0 : Int32)), (.int (0 : Int32)), (.int (0 : Int32)), (.int (0 : Int32)), (.int (0 : Int32)), (.int (0 : Int32)), (.int (0 : Int32))] (.int (0 : Int32)) ∧ Fld Z h b4 "org/reachwatch/IntBlocks" "size" "I" (.int (1 : Int32)) ∧ (h0.size ≤ b221)
set_option maxRecDepth 65536 in
set_option maxHeartbeats 40000000 in
theorem rm_add3_0 (l : Launch) (Z : State) (a0 : Array Value) (hw : ∀ d ∈ tables_1, d.before a0 Z = true) (ws : List Jvm.Cond) (b4 : Addr) (p0 : Int32) (b51_10 : Addr) (k51_10 : ClassId) (h0 : Heap) (n0 : Nat) (O0 : Old Z n0 h0) (g_b4 : n0 ≤ b4) (g_b51_10 : n0 ≤ b51_10) (Fi0 : Exa Z h0 b4 "org/reachwatch/IntBlocks") (Fi1 : Fld Z h0 b4 "org/reachwatch/IntBlocks" "size" "I" (.int (0 : Int32))) (Fi2 : Arv Z h0 b51_10 k51_10 (.array .int) (1 : Int32) [.null] .null) (Fi3 : OvrA Z k51_10 .int "[I") (Fi4 : Exa Z h0 b51_10 "[[I") (Fi5 : Fld Z h0 b4 "org/reachwatch/IntBlocks" "blocks" "[[I" (.ref b51_10)) (q0 : ¬ (b51_10 = b4)) :
    MetFree l (⟨"org/reachwatch/IntBlocks", "add", "(I)V"⟩ : MethodName) (head1 (Jvm.Cond.code (⟨"org/reachwatch/IntBlocks", "add", "(I)V"⟩ : MethodName) prog_56_method_2_code 4 none :: ws) ({ frames := 0, cells := 1, slots := 16, locals := 0 } : Room)) (fun a U => a = #[(.ref b4), (.int p0)] ∧ Z.Warmed39 U.vm ∧ U.heap = h0) (fun _ _ _ _ _ => True) (fun _ U o U' => ∃ v L, o = .returned v ∧ Q_add3_0 Z b4 p0 b51_10 k51_10 h0 n0 v U'.heap L ∧ FrameEnd U o U' L ({ frames := 0, cells := 1, slots := 16, locals := 0 } : Room).cells ({ frames := 0, cells := 1, slots := 16, locals := 0 } : Room).slots) := by
  refine MetFree.of_bodySF (plainFor_of_name pn_2) hisR ?_
  intro p e s m args below meth c s₁ Bd hml0 hP hK
  have W := fun {d : Jvm.Cond} (i : Nat) (q : tables_1[i]? = some d) => hw d (List.mem_of_getElem? q)
  obtain ⟨rfl, hZ, hh⟩ := hP
  have hx := Bd.exec
  have hby := Bd.bytes
  have hml : c.maxLocals = 4 := hml0
  have hown : s.vm.findClass "org/reachwatch/IntBlocks" = some m.cls := findClass_of_methodNamed Bd.named
  have hnm := (name_of_methodNamed Bd.named Bd.method).1
  have X0 : Stand p l e ({ frames := 0, cells := 1, slots := 16, locals := 0 } : Room) s m #[(.ref b4), (.int p0)] below meth c s₁ [] 0 0 := Stand.of_body Bd
  have e0 : s₁.heap = h0 := by rw [← hh, Bd.state]; rfl
  have N0 := Fr.nil n0
  have pre0 : ∀ t, Steps p.tables e below (s₁.setTop (mkF m 0 #[rv b4, iv p0, .unset, .unset] [])) t → Steps p.tables e below (s₁.setTop (entryFrame m #[(.ref b4), (.int p0)] 4)) t := fun t k => castTop (ef_5 m b4 p0) k
  have K0 : Keep h0 h0 [b4, b51_10] := Keep.refl h0 [b4, b51_10]
  have pre202 : ∀ t, Steps p.tables e below (s₁.setTop (mkF m 1 #[rv b4, iv p0, .unset, .unset] [(.ref b4)])) t → Steps p.tables e below (s₁.setTop (entryFrame m #[(.ref b4), (.int p0)] 4)) t := fun t kt => by
    refine pre0 _ ?_
    show Steps p.tables e below (s₁.setTop (mkF m 0 #[rv b4, iv p0, .unset, .unset] [])) _
    refine XS.aloadN X0.here hx rfl (hb hby d3_0) rfl rfl ?_
    exact kt
  obtain ⟨T203, X203, e203, st203⟩ := getF X0 hx hZ hown (host := "") (Or.inl (W 19 rfl)) Via.refl e0 Fi1 (g := (mkF m 1 #[rv b4, iv p0, .unset, .unset] [(.ref b4)])) rfl rfl (hb hby d3_1)
  have pre204 : ∀ t, Steps p.tables e below (T203.setTop (mkF m 4 #[rv b4, iv p0, .unset, .unset] [(.int (0 : Int32))])) t → Steps p.tables e below (s₁.setTop (entryFrame m #[(.ref b4), (.int p0)] 4)) t := fun t kt => pre202 _ (st203 _ kt)
  have pre205 : ∀ t, Steps p.tables e below (T203.setTop (mkF m 9 #[rv b4, iv p0, iv (0 : Int32), .unset] [(.ref b4)])) t → Steps p.tables e below (s₁.setTop (entryFrame m #[(.ref b4), (.int p0)] 4)) t := fun t kt => by
    refine pre204 _ ?_
    show Steps p.tables e below (T203.setTop (mkF m 4 #[rv b4, iv p0, .unset, .unset] [(.int (0 : Int32))])) _
    refine X203.ldcInt hx hown (mvT hZ (W 21 rfl)) (g := (mkF m 4 #[rv b4, iv p0, .unset, .unset] [(.int (0 : Int32))])) rfl (hb hby d3_4) _ ?_
    show Steps p.tables e below (T203.setTop (mkF m 6 #[rv b4, iv p0, .unset, .unset] [(.int (65536 : Int32)), (.int (0 : Int32))])) _
    refine XS.idiv X203.here hx rfl (hb hby d3_6) rfl (by decide) ?_
    show  Steps p.tables e below (T203.setTop (mkF m 7 #[rv b4, iv p0, .unset, .unset] [(.int ((0 : Int32) / (65536 : Int32)))])) _
    rw [(by decide : (((0 : Int32) / (65536 : Int32)) : Int32) = (0 : Int32))]
    show Steps p.tables e below (T203.setTop (mkF m 7 #[rv b4, iv p0, .unset, .unset] [(.int (0 : Int32))])) _
    refine XS.istoreN X203.here hx rfl (hb hby d3_7) rfl (l' := #[rv b4, iv p0, iv (0 : Int32), .unset]) rfl ?_
    show Steps p.tables e below (T203.setTop (mkF m 8 #[rv b4, iv p0, iv (0 : Int32), .unset] [])) _
    refine XS.aloadN X203.here hx rfl (hb hby d3_8) rfl rfl ?_
    exact kt
  obtain ⟨T206, X206, e206, st206⟩ := getF X203 hx hZ hown (host := "") (Or.inl (W 19 rfl)) Via.refl e203 Fi1 (g := (mkF m 9 #[rv b4, iv p0, iv (0 : Int32), .unset] [(.ref b4)])) rfl rfl (hb hby d3_9)
  have pre207 : ∀ t, Steps p.tables e below (T206.setTop (mkF m 12 #[rv b4, iv p0, iv (0 : Int32), .unset] [(.int (0 : Int32))])) t → Steps p.tables e below (s₁.setTop (entryFrame m #[(.ref b4), (.int p0)] 4)) t := fun t kt => pre205 _ (st206 _ kt)
  have pre208 : ∀ t, Steps p.tables e below (T206.setTop (mkF m 18 #[rv b4, iv p0, iv (0 : Int32), iv (0 : Int32)] [(.ref b4), (.int (0 : Int32))])) t → Steps p.tables e below (s₁.setTop (entryFrame m #[(.ref b4), (.int p0)] 4)) t := fun t kt => by
    refine pre207 _ ?_
    show Steps p.tables e below (T206.setTop (mkF m 12 #[rv b4, iv p0, iv (0 : Int32), .unset] [(.int (0 : Int32))])) _
    refine X206.ldcInt hx hown (mvT hZ (W 21 rfl)) (g := (mkF m 12 #[rv b4, iv p0, iv (0 : Int32), .unset] [(.int (0 : Int32))])) rfl (hb hby d3_12) _ ?_
    show Steps p.tables e below (T206.setTop (mkF m 14 #[rv b4, iv p0, iv (0 : Int32), .unset] [(.int (65536 : Int32)), (.int (0 : Int32))])) _
    refine XS.irem X206.here hx rfl (hb hby d3_14) rfl (by decide) ?_
    show  Steps p.tables e below (T206.setTop (mkF m 15 #[rv b4, iv p0, iv (0 : Int32), .unset] [(.int ((0 : Int32) - ((0 : Int32) / (65536 : Int32)) * (65536 : Int32)))])) _
    rw [(by decide : (((0 : Int32) - ((0 : Int32) / (65536 : Int32)) * (65536 : Int32)) : Int32) = (0 : Int32))]
    show Steps p.tables e below (T206.setTop (mkF m 15 #[rv b4, iv p0, iv (0 : Int32), .unset] [(.int (0 : Int32))])) _
    refine XS.istoreN X206.here hx rfl (hb hby d3_15) rfl (l' := #[rv b4, iv p0, iv (0 : Int32), iv (0 : Int32)]) rfl ?_
    show Steps p.tables e below (T206.setTop (mkF m 16 #[rv b4, iv p0, iv (0 : Int32), iv (0 : Int32)] [])) _
    refine XS.iloadN X206.here hx rfl (hb hby d3_16) rfl ?_
    show Steps p.tables e below (T206.setTop (mkF m 17 #[rv b4, iv p0, iv (0 : Int32), iv (0 : Int32)] [(.int (0 : Int32))])) _
    refine XS.aloadN X206.here hx rfl (hb hby d3_17) rfl rfl ?_
    exact kt
  obtain ⟨T209, X209, e209, st209⟩ := getF X206 hx hZ hown (host := "") (Or.inl (W 12 rfl)) Via.refl e206 Fi5 (g := (mkF m 18 #[rv b4, iv p0, iv (0 : Int32), iv (0 : Int32)] [(.ref b4), (.int (0 : Int32))])) rfl rfl (hb hby d3_18)
  have pre210 : ∀ t, Steps p.tables e below (T209.setTop (mkF m 21 #[rv b4, iv p0, iv (0 : Int32), iv (0 : Int32)] [(.ref b51_10), (.int (0 : Int32))])) t → Steps p.tables e below (s₁.setTop (entryFrame m #[(.ref b4), (.int p0)] 4)) t := fun t kt => pre208 _ (st209 _ kt)
  obtain ⟨c211, Ar211, -, S211, M211, -, -⟩ := id Fi2
  have pre212 : ∀ t, Steps p.tables e below (T209.setTop (mkF m 43 #[rv b4, iv p0, iv (0 : Int32), iv (0 : Int32)] [(.ref b4)])) t → Steps p.tables e below (s₁.setTop (entryFrame m #[(.ref b4), (.int p0)] 4)) t := fun t kt => by
    refine pre210 _ ?_
    show Steps p.tables e below (T209.setTop (mkF m 21 #[rv b4, iv p0, iv (0 : Int32), iv (0 : Int32)] [(.ref b51_10), (.int (0 : Int32))])) _
    refine X209.arraylength hx (by rw [e209]; exact Ar211.1) (State.isArrayOf_alike hZ.alike Ar211.2.1) (g := (mkF m 21 #[rv b4, iv p0, iv (0 : Int32), iv (0 : Int32)] [(.ref b51_10), (.int (0 : Int32))])) rfl rfl (hb hby d3_21) _ ?_
    rw [len_of S211 M211]
    show Steps p.tables e below (T209.setTop (mkF m 22 #[rv b4, iv p0, iv (0 : Int32), iv (0 : Int32)] [(.int (1 : Int32)), (.int (0 : Int32))])) _
    refine XS.icmpYes X209.here hx rfl (pc0 := 22) (pc' := 42) rfl (hb hby d3_22) rfl (XT.ii_ne_t (by decide)) (by decide) (by decide) ?_
    show Steps p.tables e below (T209.setTop (mkF m 42 #[rv b4, iv p0, iv (0 : Int32), iv (0 : Int32)] [])) _
    refine XS.aloadN X209.here hx rfl (hb hby d3_42) rfl rfl ?_
    exact kt
  obtain ⟨T213, X213, e213, st213⟩ := getF X209 hx hZ hown (host := "") (Or.inl (W 12 rfl)) Via.refl e209 Fi5 (g := (mkF m 43 #[rv b4, iv p0, iv (0 : Int32), iv (0 : Int32)] [(.ref b4)])) rfl rfl (hb hby d3_43)
  have pre214 : ∀ t, Steps p.tables e below (T213.setTop (mkF m 46 #[rv b4, iv p0, iv (0 : Int32), iv (0 : Int32)] [(.ref b51_10)])) t → Steps p.tables e below (s₁.setTop (entryFrame m #[(.ref b4), (.int p0)] 4)) t := fun t kt => pre212 _ (st213 _ kt)
  have pre216 : ∀ t, Steps p.tables e below (T213.setTop (mkF m 47 #[rv b4, iv p0, iv (0 : Int32), iv (0 : Int32)] [(.int (0 : Int32)), (.ref b51_10)])) t → Steps p.tables e below (s₁.setTop (entryFrame m #[(.ref b4), (.int p0)] 4)) t := fun t kt => by
    refine pre214 _ ?_
    show Steps p.tables e below (T213.setTop (mkF m 46 #[rv b4, iv p0, iv (0 : Int32), iv (0 : Int32)] [(.ref b51_10)])) _
    refine XS.iloadN X213.here hx rfl (hb hby d3_46) rfl ?_
    exact kt
  obtain ⟨c215, Ar215, q215, S215, M215, H215, G215⟩ := id Fi2
  have i215 : ¬ ((0 : Int32) < 0 ∨ c215.slots.size ≤ ((0 : Int32)).toNatClampNeg) := inb_of S215 ⟨by decide, by decide⟩
  have t215 : c215.slots[((0 : Int32)).toNatClampNeg]? = some .null := Has.at H215 i215 rfl
  have pre217 : ∀ t, Steps p.tables e below (T213.setTop (mkF m 52 #[rv b4, iv p0, iv (0 : Int32), iv (0 : Int32)] [(.ref b4)])) t → Steps p.tables e below (s₁.setTop (entryFrame m #[(.ref b4), (.int p0)] 4)) t := fun t kt => by
    refine pre216 _ ?_
    show Steps p.tables e below (T213.setTop (mkF m 47 #[rv b4, iv p0, iv (0 : Int32), iv (0 : Int32)] [(.int (0 : Int32)), (.ref b51_10)])) _
    refine X213.aaload hx (j := (0 : Int32)) (v := .null) (by rw [e213]; exact Ar215.1) (State.isArrayOf_alike hZ.alike Ar215.2.1) rfl Ar215.2.2 i215 t215 (g := (mkF m 47 #[rv b4, iv p0, iv (0 : Int32), iv (0 : Int32)] [(.int (0 : Int32)), (.ref b51_10)])) rfl rfl (hb hby d3_47) _ ?_
    show Steps p.tables e below (T213.setTop (mkF m 48 #[rv b4, iv p0, iv (0 : Int32), iv (0 : Int32)] [.null])) _
    refine XS.ifnonnullNo X213.here hx rfl (hb hby d3_48) rfl ?_
    show Steps p.tables e below (T213.setTop (mkF m 51 #[rv b4, iv p0, iv (0 : Int32), iv (0 : Int32)] [])) _
    refine XS.aloadN X213.here hx rfl (hb hby d3_51) rfl rfl ?_
    exact kt
  obtain ⟨T218, X218, e218, st218⟩ := getF X213 hx hZ hown (host := "") (Or.inl (W 12 rfl)) Via.refl e213 Fi5 (g := (mkF m 52 #[rv b4, iv p0, iv (0 : Int32), iv (0 : Int32)] [(.ref b4)])) rfl rfl (hb hby d3_52)
  have pre219 : ∀ t, Steps p.tables e below (T218.setTop (mkF m 55 #[rv b4, iv p0, iv (0 : Int32), iv (0 : Int32)] [(.ref b51_10)])) t → Steps p.tables e below (s₁.setTop (entryFrame m #[(.ref b4), (.int p0)] 4)) t := fun t kt => pre217 _ (st218 _ kt)
  have pre220 : ∀ t, Steps p.tables e below (T218.setTop (mkF m 67 #[rv b4, iv p0, iv (0 : Int32), iv (0 : Int32)] [(.int (16 : Int32)), (.int (0 : Int32)), (.ref b51_10)])) t → Steps p.tables e below (s₁.setTop (entryFrame m #[(.ref b4), (.int p0)] 4)) t := fun t kt => by
    refine pre219 _ ?_
    show Steps p.tables e below (T218.setTop (mkF m 55 #[rv b4, iv p0, iv (0 : Int32), iv (0 : Int32)] [(.ref b51_10)])) _
    refine XS.iloadN X218.here hx rfl (hb hby d3_55) rfl ?_
    show Steps p.tables e below (T218.setTop (mkF m 56 #[rv b4, iv p0, iv (0 : Int32), iv (0 : Int32)] [(.int (0 : Int32)), (.ref b51_10)])) _
    refine XS.iloadN X218.here hx rfl (hb hby d3_56) rfl ?_
    show Steps p.tables e below (T218.setTop (mkF m 57 #[rv b4, iv p0, iv (0 : Int32), iv (0 : Int32)] [(.int (0 : Int32)), (.int (0 : Int32)), (.ref b51_10)])) _
    refine XS.ifNo X218.here hx rfl (hb hby d3_57) rfl (XT.i0_ne_f (by decide)) ?_
    show Steps p.tables e below (T218.setTop (mkF m 60 #[rv b4, iv p0, iv (0 : Int32), iv (0 : Int32)] [(.int (0 : Int32)), (.ref b51_10)])) _
    refine XS.bipush X218.here hx rfl (hb hby d3_60) ?_
    show Steps p.tables e below (T218.setTop (mkF m 62 #[rv b4, iv p0, iv (0 : Int32), iv (0 : Int32)] [(.int (16 : Int32)), (.int (0 : Int32)), (.ref b51_10)])) _
    refine XS.goto X218.here hx rfl (pc0 := 62) (pc' := 67) rfl (hb hby d3_62) (by decide) (by decide) ?_
    exact kt
  obtain ⟨T221, h221, k221, X221, e221, E221, A221, B221, st221⟩ := newPE X218 hx hZ (W 22 rfl) e218 (g := (mkF m 67 #[rv b4, iv p0, iv (0 : Int32), iv (0 : Int32)] [(.int (16 : Int32)), (.int (0 : Int32)), (.ref b51_10)])) rfl (hb hby d3_67) rfl (by decide) (cap := 16) (by decide) (by decide) (by decide) (by decide) (ad := "[I") (by decide)
  obtain ⟨b221, g221⟩ : ∃ z, z = h0.size := ⟨_, rfl⟩
  rw [← g221] at A221 B221 st221
  have pre222 : ∀ t, Steps p.tables e below (T221.setTop (mkF m 69 #[rv b4, iv p0, iv (0 : Int32), iv (0 : Int32)] [(.ref b221), (.int (0 : Int32)), (.ref b51_10)])) t → Steps p.tables e below (s₁.setTop (entryFrame m #[(.ref b4), (.int p0)] 4)) t := fun t kt => pre220 _ (st221 _ kt)
  have O221 := O0.ext E221
  have K221 : Keep h0 h221 [b4, b51_10] := K0.ext E221
  have F223 := Fi0.ext E221
  have F224 := Fi1.ext E221
  have F225 := Fi2.ext E221
  have F226 := Fi4.ext E221
  have F227 := Fi5.ext E221
  have g_b221 : n0 ≤ b221 := Nat.le_trans (Nat.le_trans (Nat.le_of_eq O0.1.symm) O0.2.1) (Nat.le_of_eq g221.symm)
  have sz_b221 : h0.size ≤ b221 := Nat.le_trans K0.1 (Nat.le_of_eq g221.symm)
  have ne_b4_b221 : b4 ≠ b221 := Nat.ne_of_lt (Nat.lt_of_lt_of_le Fi0.lt (Nat.le_of_eq g221.symm))
  have ne_b51_10_b221 : b51_10 ≠ b221 := Nat.ne_of_lt (Nat.lt_of_lt_of_le Fi2.lt (Nat.le_of_eq g221.symm))
  have F228 : Exa Z h221 b221 "[I" := B221
  have F229 : Arv Z h221 b221 k221 .int (16 : Int32) [(.int (0 : Int32)), (.int (0 : Int32)), (.int (0 : Int32)), (.int (0 : Int32)), (.int (0 : Int32)), (.int (0 : Int32)), (.int (0 : Int32)), (.int (0 : Int32)), (.int (0 : Int32)), (.int (0 : Int32)), (.int (0 : Int32)), (.int (0 : Int32)), (.int (0 : Int32)), (.int (0 : Int32)), (.int (0 : Int32)), (.int (0 : Int32))] (.int (0 : Int32)) := (Arv.new A221 (by decide)).pad (pad_rep [] (.int (0 : Int32)) 16)
  obtain ⟨c230, Ar230, q230, S230, M230, H230, G230⟩ := id F225
  have i230 : ¬ ((0 : Int32) < 0 ∨ c230.slots.size ≤ ((0 : Int32)).toNatClampNeg) := inb_of S230 ⟨by decide, by decide⟩
  obtain ⟨T231, h231, X231, e231, W231, st231⟩ := stR X221 hx hZ e221 Ar230 (j := (0 : Int32)) i230 rfl (Sto.ofVA Ar230 q230 Fi3 (Ins.self F228)) (g := (mkF m 69 #[rv b4, iv p0, iv (0 : Int32), iv (0 : Int32)] [(.ref b221), (.int (0 : Int32)), (.ref b51_10)])) rfl rfl (hb hby d3_69)
  have pre232 : ∀ t, Steps p.tables e below (T231.setTop (mkF m 70 #[rv b4, iv p0, iv (0 : Int32), iv (0 : Int32)] [])) t → Steps p.tables e below (s₁.setTop (entryFrame m #[(.ref b4), (.int p0)] 4)) t := fun t kt => pre222 _ (st231 _ kt)
  have N231 := Fr.snoc X231 N0 g_b51_10
  have O231 := O221.wr W231 g_b51_10
  have K231 : Keep h0 h231 [b4, b51_10] := K221.wr W231 (Or.inl (List.mem_of_getElem? (i := 1) rfl))
  have F233 := F223.wr W231
  have F234 := F224.other W231 (Or.inl (fun q => q0 q.symm))
  have F235 := F226.wr W231
  have F236 := F227.other W231 (Or.inl (fun q => q0 q.symm))
  have F237 := F228.wr W231
  have F238 := F229.other W231 (fun q => ne_b51_10_b221 q.symm)
  have F239 : Arv Z h231 b51_10 k51_10 (.array .int) (1 : Int32) [(.ref b221)] .null := Arv.set Ar230 q230 S230 M230 H230 G230 rfl W231 0 rfl (Nat.le_of_ble_eq_true rfl)
  have pre240 : ∀ t, Steps p.tables e below (T231.setTop (mkF m 103 #[rv b4, iv p0, iv (0 : Int32), iv (0 : Int32)] [(.ref b4)])) t → Steps p.tables e below (s₁.setTop (entryFrame m #[(.ref b4), (.int p0)] 4)) t := fun t kt => by
    refine pre232 _ ?_
    show Steps p.tables e below (T231.setTop (mkF m 70 #[rv b4, iv p0, iv (0 : Int32), iv (0 : Int32)] [])) _
    refine XS.goto X231.here hx rfl (pc0 := 70) (pc' := 102) rfl (hb hby d3_70) (by decide) (by decide) ?_
    show Steps p.tables e below (T231.setTop (mkF m 102 #[rv b4, iv p0, iv (0 : Int32), iv (0 : Int32)] [])) _
    refine XS.aloadN X231.here hx rfl (hb hby d3_102) rfl rfl ?_
    exact kt
  obtain ⟨T241, X241, e241, st241⟩ := getF X231 hx hZ hown (host := "") (Or.inl (W 12 rfl)) Via.refl e231 F236 (g := (mkF m 103 #[rv b4, iv p0, iv (0 : Int32), iv (0 : Int32)] [(.ref b4)])) rfl rfl (hb hby d3_103)
  have pre242 : ∀ t, Steps p.tables e below (T241.setTop (mkF m 106 #[rv b4, iv p0, iv (0 : Int32), iv (0 : Int32)] [(.ref b51_10)])) t → Steps p.tables e below (s₁.setTop (entryFrame m #[(.ref b4), (.int p0)] 4)) t := fun t kt => pre240 _ (st241 _ kt)
  have pre244 : ∀ t, Steps p.tables e below (T241.setTop (mkF m 107 #[rv b4, iv p0, iv (0 : Int32), iv (0 : Int32)] [(.int (0 : Int32)), (.ref b51_10)])) t → Steps p.tables e below (s₁.setTop (entryFrame m #[(.ref b4), (.int p0)] 4)) t := fun t kt => by
    refine pre242 _ ?_
    show Steps p.tables e below (T241.setTop (mkF m 106 #[rv b4, iv p0, iv (0 : Int32), iv (0 : Int32)] [(.ref b51_10)])) _
    refine XS.iloadN X241.here hx rfl (hb hby d3_106) rfl ?_
    exact kt
  obtain ⟨c243, Ar243, q243, S243, M243, H243, G243⟩ := id F239
  have i243 : ¬ ((0 : Int32) < 0 ∨ c243.slots.size ≤ ((0 : Int32)).toNatClampNeg) := inb_of S243 ⟨by decide, by decide⟩
  have t243 : c243.slots[((0 : Int32)).toNatClampNeg]? = some (.ref b221) := Has.at H243 i243 rfl
  have pre245 : ∀ t, Steps p.tables e below (T241.setTop (mkF m 110 #[rv b4, iv p0, iv (0 : Int32), iv (0 : Int32)] [(.int p0), (.int (0 : Int32)), (.ref b221)])) t → Steps p.tables e below (s₁.setTop (entryFrame m #[(.ref b4), (.int p0)] 4)) t := fun t kt => by
    refine pre244 _ ?_
    show Steps p.tables e below (T241.setTop (mkF m 107 #[rv b4, iv p0, iv (0 : Int32), iv (0 : Int32)] [(.int (0 : Int32)), (.ref b51_10)])) _
    refine X241.aaload hx (j := (0 : Int32)) (v := (.ref b221)) (by rw [e241]; exact Ar243.1) (State.isArrayOf_alike hZ.alike Ar243.2.1) rfl Ar243.2.2 i243 t243 (g := (mkF m 107 #[rv b4, iv p0, iv (0 : Int32), iv (0 : Int32)] [(.int (0 : Int32)), (.ref b51_10)])) rfl rfl (hb hby d3_107) _ ?_
    show Steps p.tables e below (T241.setTop (mkF m 108 #[rv b4, iv p0, iv (0 : Int32), iv (0 : Int32)] [(.ref b221)])) _
    refine XS.iloadN X241.here hx rfl (hb hby d3_108) rfl ?_
    show Steps p.tables e below (T241.setTop (mkF m 109 #[rv b4, iv p0, iv (0 : Int32), iv (0 : Int32)] [(.int (0 : Int32)), (.ref b221)])) _
    refine XS.iloadN X241.here hx rfl (hb hby d3_109) rfl ?_
    exact kt
  obtain ⟨c246, Ar246, q246, S246, M246, H246, G246⟩ := id F238
  have i246 : ¬ ((0 : Int32) < 0 ∨ c246.slots.size ≤ ((0 : Int32)).toNatClampNeg) := inb_of S246 ⟨by decide, by decide⟩
  obtain ⟨T247, h247, X247, e247, W247, st247⟩ := stI X241 hx hZ e241 Ar246 (j := (0 : Int32)) i246 (g := (mkF m 110 #[rv b4, iv p0, iv (0 : Int32), iv (0 : Int32)] [(.int p0), (.int (0 : Int32)), (.ref b221)])) rfl rfl (hb hby d3_110)
  have pre248 : ∀ t, Steps p.tables e below (T247.setTop (mkF m 111 #[rv b4, iv p0, iv (0 : Int32), iv (0 : Int32)] [])) t → Steps p.tables e below (s₁.setTop (entryFrame m #[(.ref b4), (.int p0)] 4)) t := fun t kt => pre245 _ (st247 _ kt)
  have N247 := Fr.snoc X247 N231 g_b221
  have O247 := O231.wr W247 g_b221
  have K247 : Keep h0 h247 [b4, b51_10] := K231.wr W247 (Or.inr sz_b221)
  have F249 := F233.wr W247
  have F250 := F234.other W247 (Or.inl ne_b4_b221)
  have F251 := F235.wr W247
  have F252 := F236.other W247 (Or.inl ne_b4_b221)
  have F253 := F237.wr W247
  have F254 := F239.other W247 ne_b51_10_b221
  have F255 : Arv Z h247 b221 k221 .int (16 : Int32) [(.int p0), (.int (0 : Int32)), (.int (0 : Int32)), (.int (0 : Int32)), (.int (0 : Int32)), (.int (0 : Int32)), (.int (0 : Int32)), (.int (0 : Int32)), (.int (0 : Int32)), (.int (0 : Int32)), (.int (0 : Int32)), (.int (0 : Int32)), (.int (0 : Int32)), (.int (0 : Int32)), (.int (0 : Int32)), (.int (0 : Int32))] (.int (0 : Int32)) := Arv.set Ar246 q246 S246 M246 H246 G246 rfl W247 0 rfl (Nat.le_of_ble_eq_true rfl)
  have pre256 : ∀ t, Steps p.tables e below (T247.setTop (mkF m 113 #[rv b4, iv p0, iv (0 : Int32), iv (0 : Int32)] [(.ref b4), (.ref b4)])) t → Steps p.tables e below (s₁.setTop (entryFrame m #[(.ref b4), (.int p0)] 4)) t := fun t kt => by
    refine pre248 _ ?_
    show Steps p.tables e below (T247.setTop (mkF m 111 #[rv b4, iv p0, iv (0 : Int32), iv (0 : Int32)] [])) _
    refine XS.aloadN X247.here hx rfl (hb hby d3_111) rfl rfl ?_
    show Steps p.tables e below (T247.setTop (mkF m 112 #[rv b4, iv p0, iv (0 : Int32), iv (0 : Int32)] [(.ref b4)])) _
    refine XS.dup X247.here hx rfl (hb hby d3_112) rfl rfl ?_
    exact kt
  obtain ⟨T257, X257, e257, st257⟩ := getF X247 hx hZ hown (host := "") (Or.inl (W 19 rfl)) Via.refl e247 F250 (g := (mkF m 113 #[rv b4, iv p0, iv (0 : Int32), iv (0 : Int32)] [(.ref b4), (.ref b4)])) rfl rfl (hb hby d3_113)
  have pre258 : ∀ t, Steps p.tables e below (T257.setTop (mkF m 116 #[rv b4, iv p0, iv (0 : Int32), iv (0 : Int32)] [(.int (0 : Int32)), (.ref b4)])) t → Steps p.tables e below (s₁.setTop (entryFrame m #[(.ref b4), (.int p0)] 4)) t := fun t kt => pre256 _ (st257 _ kt)
  have pre259 : ∀ t, Steps p.tables e below (T257.setTop (mkF m 118 #[rv b4, iv p0, iv (0 : Int32), iv (0 : Int32)] [(.int (1 : Int32)), (.ref b4)])) t → Steps p.tables e below (s₁.setTop (entryFrame m #[(.ref b4), (.int p0)] 4)) t := fun t kt => by
    refine pre258 _ ?_
    show Steps p.tables e below (T257.setTop (mkF m 116 #[rv b4, iv p0, iv (0 : Int32), iv (0 : Int32)] [(.int (0 : Int32)), (.ref b4)])) _
    refine XS.iconst X257.here hx rfl (hb hby d3_116) ?_
    show Steps p.tables e below (T257.setTop (mkF m 117 #[rv b4, iv p0, iv (0 : Int32), iv (0 : Int32)] [(.int (1 : Int32)), (.int (0 : Int32)), (.ref b4)])) _
    refine XS.iadd X257.here hx rfl (hb hby d3_117) rfl ?_
    show  Steps p.tables e below (T257.setTop (mkF m 118 #[rv b4, iv p0, iv (0 : Int32), iv (0 : Int32)] [(.int ((0 : Int32) + (1 : Int32))), (.ref b4)])) _
    rw [(by decide : (((0 : Int32) + (1 : Int32)) : Int32) = (1 : Int32))]
    exact kt
  obtain ⟨T260, h260, X260, e260, W260, st260⟩ := putF X257 hx hZ hown (host := "") (Or.inl (W 19 rfl)) Via.refl e257 F250 F249 (Or.inl (W 20 rfl)) (W 2 rfl) (ty := .int) (by decide) rfl rfl (g := (mkF m 118 #[rv b4, iv p0, iv (0 : Int32), iv (0 : Int32)] [(.int (1 : Int32)), (.ref b4)])) rfl rfl (hb hby d3_118)
  have pre261 : ∀ t, Steps p.tables e below (T260.setTop (mkF m 121 #[rv b4, iv p0, iv (0 : Int32), iv (0 : Int32)] [])) t → Steps p.tables e below (s₁.setTop (entryFrame m #[(.ref b4), (.int p0)] 4)) t := fun t kt => pre259 _ (st260 _ kt)
  have N260 := Fr.snoc X260 N247 g_b4
  have O260 := O247.wr W260 g_b4
  have K260 : Keep h0 h260 [b4, b51_10] := K247.wr W260 (Or.inl (List.mem_of_getElem? (i := 0) rfl))
  have F262 := F249.wr W260
  have F263 := F251.wr W260
  have F264 := F252.other W260 (Or.inr (slot_ne (Or.inl (W 13 rfl)) (Or.inl (W 20 rfl)) (by decide) (t := (.array (.array .int))) (t' := .int) (by decide) (by decide)))
  have F265 := F253.wr W260
  have F266 := F254.other W260 q0
  have F267 := F255.other W260 (fun q => ne_b4_b221 q.symm)
  have F268 : Fld Z h260 b4 "org/reachwatch/IntBlocks" "size" "I" (.int (1 : Int32)) := F250.same W260
  obtain ⟨fs, hr, hrun, hended, hW, hsame⟩ := X260.leave (v := none) (fun _ => rfl)
  refine ⟨_, _, pre261 _ (X260.returnOut hx Bd.returns (hb hby d3_121) hr), hrun, hended, _, _, rfl, ?_, ⟨_, rfl⟩, hW, hsame.mono (by decide) (by decide)⟩
  show Q_add3_0 Z b4 p0 b51_10 k51_10 h0 n0 _ T260.heap _
  rw [e260]
  exact ⟨b221, k221, rfl, N260, K260, O260, F262, F263, F264, F265, F266, F267, F268, sz_b221⟩
theorem pd_6 : parseMethodDescriptor "(I)V" = some ⟨[.int], none⟩ := by decide +kernel
theorem d4_0 : decode prog_56_method_4_code 0 = .ok (.iload_n 1, 1) := by decide +kernel
theorem d4_1 : decode prog_56_method_4_code 1 = .ok (.aload_n 0, 1) := by decide +kernel
theorem d4_2 : decode prog_56_method_4_code 2 = .ok (.getfield 17, 3) := by decide +kernel
theorem d4_5 : decode prog_56_method_4_code 5 = .ok (.invokestatic 32, 3) := by decide +kernel
theorem d5_0 : decode jdk_31_method_17_code 0 = .ok (.iload_n 0, 1) := by decide +kernel
theorem d5_1 : decode jdk_31_method_17_code 1 = .ok (.iload_n 1, 1) := by decide +kernel
theorem d5_2 : decode jdk_31_method_17_code 2 = .ok (.aconst_null, 1) := by decide +kernel
theorem d5_3 : decode jdk_31_method_17_code 3 = .ok (.invokestatic 105, 3) := by decide +kernel
theorem d6_0 : decode jdk_41_method_11_code 0 = .ok (.iload_n 0, 1) := by decide +kernel
theorem d6_1 : decode jdk_41_method_11_code 1 = .ok (.ifCond .lt 8, 3) := by decide +kernel
theorem d6_4 : decode jdk_41_method_11_code 4 = .ok (.iload_n 0, 1) := by decide +kernel
theorem d6_5 : decode jdk_41_method_11_code 5 = .ok (.iload_n 1, 1) := by decide +kernel
theorem d6_6 : decode jdk_41_method_11_code 6 = .ok (.if_icmp .lt 10, 3) := by decide +kernel
theorem d6_16 : decode jdk_41_method_11_code 16 = .ok (.iload_n 0, 1) := by decide +kernel
theorem d6_17 : decode jdk_41_method_11_code 17 = .ok (.ireturn, 1) := by decide +kernel
theorem pn_7 : plainName "jdk/internal/util/Preconditions" = true := by first | (simp [plainName, overriddenIn]; done) | decide +kernel
theorem ef_8 (m : MethodId) (x0 : Int32) (x1 : Int32) : entryFrame m #[(.int x0), (.int x1), .null] 3 = mkF m 0 #[.val (.int x0), .val (.int x1), .val .null] [] := by first | (simp [entryFrame, mkF, argsToLocals, Value.category]; done) | rfl
def Q_checkIndex6_0 (Z : State)  (h0 : Heap) (n0 : Nat) (v : Option Value) (h : Heap) (L : List Loc) : Prop := v = some (.int (0 : Int32)) ∧ Fr n0 L ∧ h = h0
set_option maxRecDepth 65536 in
set_option maxHeartbeats 40000000 in
theorem rm_checkIndex6_0 (l : Launch) (Z : State) (a0 : Array Value) (hw : ∀ d ∈ tables_1, d.before a0 Z = true) (ws : List Jvm.Cond)  (h0 : Heap) (n0 : Nat) (O0 : Old Z n0 h0) :
    MetFree l (⟨"jdk/internal/util/Preconditions", "checkIndex", "(IILjava/util/function/BiFunction;)I"⟩ : MethodName) (head1 (Jvm.Cond.code (⟨"jdk/internal/util/Preconditions", "checkIndex", "(IILjava/util/function/BiFunction;)I"⟩ : MethodName) jdk_41_method_11_code 3 (some .int) :: ws) ({ frames := 0, cells := 0, slots := 0, locals := 0 } : Room)) (fun a U => a = #[(.int (0 : Int32)), (.int (1 : Int32)), .null] ∧ Z.Warmed39 U.vm ∧ U.heap = h0) (fun _ _ _ _ _ => True) (fun _ U o U' => ∃ v L, o = .returned v ∧ Q_checkIndex6_0 Z  h0 n0 v U'.heap L ∧ FrameEnd U o U' L ({ frames := 0, cells := 0, slots := 0, locals := 0 } : Room).cells ({ frames := 0, cells := 0, slots := 0, locals := 0 } : Room).slots) := by
  refine MetFree.of_bodySF (plainFor_of_name pn_7) hisR ?_
  intro p e s m args below meth c s₁ Bd hml0 hP hK
  have W := fun {d : Jvm.Cond} (i : Nat) (q : tables_1[i]? = some d) => hw d (List.mem_of_getElem? q)
  obtain ⟨rfl, hZ, hh⟩ := hP
  have hx := Bd.exec
  have hby := Bd.bytes
  have hml : c.maxLocals = 3 := hml0
  have hown : s.vm.findClass "jdk/internal/util/Preconditions" = some m.cls := findClass_of_methodNamed Bd.named
  have hnm := (name_of_methodNamed Bd.named Bd.method).1
  have X0 : Stand p l e ({ frames := 0, cells := 0, slots := 0, locals := 0 } : Room) s m #[(.int (0 : Int32)), (.int (1 : Int32)), .null] below meth c s₁ [] 0 0 := Stand.of_body Bd
  have e0 : s₁.heap = h0 := by rw [← hh, Bd.state]; rfl
  have N0 := Fr.nil n0
  have pre0 : ∀ t, Steps p.tables e below (s₁.setTop (mkF m 0 #[iv (0 : Int32), iv (1 : Int32), .val .null] [])) t → Steps p.tables e below (s₁.setTop (entryFrame m #[(.int (0 : Int32)), (.int (1 : Int32)), .null] 3)) t := fun t k => castTop (ef_8 m (0 : Int32) (1 : Int32)) k
  have K0 : Keep h0 h0 [] := Keep.refl h0 []
  have pre282 : ∀ t, Steps p.tables e below (s₁.setTop (mkF m 17 #[iv (0 : Int32), iv (1 : Int32), .val .null] [(.int (0 : Int32))])) t → Steps p.tables e below (s₁.setTop (entryFrame m #[(.int (0 : Int32)), (.int (1 : Int32)), .null] 3)) t := fun t kt => by
    refine pre0 _ ?_
    show Steps p.tables e below (s₁.setTop (mkF m 0 #[iv (0 : Int32), iv (1 : Int32), .val .null] [])) _
    refine XS.iloadN X0.here hx rfl (hb hby d6_0) rfl ?_
    show Steps p.tables e below (s₁.setTop (mkF m 1 #[iv (0 : Int32), iv (1 : Int32), .val .null] [(.int (0 : Int32))])) _
    refine XS.ifNo X0.here hx rfl (hb hby d6_1) rfl (XT.i0_lt_f (by decide)) ?_
    show Steps p.tables e below (s₁.setTop (mkF m 4 #[iv (0 : Int32), iv (1 : Int32), .val .null] [])) _
    refine XS.iloadN X0.here hx rfl (hb hby d6_4) rfl ?_
    show Steps p.tables e below (s₁.setTop (mkF m 5 #[iv (0 : Int32), iv (1 : Int32), .val .null] [(.int (0 : Int32))])) _
    refine XS.iloadN X0.here hx rfl (hb hby d6_5) rfl ?_
    show Steps p.tables e below (s₁.setTop (mkF m 6 #[iv (0 : Int32), iv (1 : Int32), .val .null] [(.int (1 : Int32)), (.int (0 : Int32))])) _
    refine XS.icmpYes X0.here hx rfl (pc0 := 6) (pc' := 16) rfl (hb hby d6_6) rfl (XT.ii_lt_t (by decide)) (by decide) (by decide) ?_
    show Steps p.tables e below (s₁.setTop (mkF m 16 #[iv (0 : Int32), iv (1 : Int32), .val .null] [])) _
    refine XS.iloadN X0.here hx rfl (hb hby d6_16) rfl ?_
    exact kt
  obtain ⟨fs, hr, hrun, hended, hW, hsame⟩ := X0.leave (v := some (.int (0 : Int32))) (fun h => by rw [Bd.returns] at h; cases h)
  refine ⟨_, _, pre282 _ (retI X0 hx Bd.returns (hb hby d6_17) hr), hrun, hended, _, _, rfl, ?_, ⟨_, rfl⟩, hW, hsame.mono (by decide) (by decide)⟩
  show Q_checkIndex6_0 Z  h0 n0 _ s₁.heap _
  rw [e0]
  exact ⟨rfl, N0, rfl⟩
theorem pd_9 : parseMethodDescriptor "(IILjava/util/function/BiFunction;)I" = some ⟨[.int, .int, (.object "java/util/function/BiFunction")], some .int⟩ := by decide +kernel
theorem d5_6 : decode jdk_31_method_17_code 6 = .ok (.ireturn, 1) := by decide +kernel
theorem pn_10 : plainName "java/util/Objects" = true := by first | (simp [plainName, overriddenIn]; done) | decide +kernel
theorem ef_11 (m : MethodId) (x0 : Int32) (x1 : Int32) : entryFrame m #[(.int x0), (.int x1)] 2 = mkF m 0 #[.val (.int x0), .val (.int x1)] [] := by first | (simp [entryFrame, mkF, argsToLocals, Value.category]; done) | rfl
def Q_checkIndex5_0 (Z : State)  (h0 : Heap) (n0 : Nat) (v : Option Value) (h : Heap) (L : List Loc) : Prop := v = some (.int (0 : Int32)) ∧ Fr n0 L ∧ h = h0
set_option maxRecDepth 65536 in
set_option maxHeartbeats 40000000 in
theorem rm_checkIndex5_0 (l : Launch) (Z : State) (a0 : Array Value) (hw : ∀ d ∈ tables_1, d.before a0 Z = true) (ws : List Jvm.Cond)  (h0 : Heap) (n0 : Nat) (O0 : Old Z n0 h0) :
    MetFree l (⟨"java/util/Objects", "checkIndex", "(II)I"⟩ : MethodName) (head1 (Jvm.Cond.code (⟨"java/util/Objects", "checkIndex", "(II)I"⟩ : MethodName) jdk_31_method_17_code 2 (some .int) :: ws) ({ frames := 1, cells := 0, slots := 0, locals := 14 } : Room)) (fun a U => a = #[(.int (0 : Int32)), (.int (1 : Int32))] ∧ Z.Warmed39 U.vm ∧ U.heap = h0) (fun _ _ _ _ _ => True) (fun _ U o U' => ∃ v L, o = .returned v ∧ Q_checkIndex5_0 Z  h0 n0 v U'.heap L ∧ FrameEnd U o U' L ({ frames := 1, cells := 0, slots := 0, locals := 14 } : Room).cells ({ frames := 1, cells := 0, slots := 0, locals := 14 } : Room).slots) := by
  refine MetFree.of_bodySF (plainFor_of_name pn_10) hisR ?_
  intro p e s m args below meth c s₁ Bd hml0 hP hK
  have W := fun {d : Jvm.Cond} (i : Nat) (q : tables_1[i]? = some d) => hw d (List.mem_of_getElem? q)
  obtain ⟨rfl, hZ, hh⟩ := hP
  have hx := Bd.exec
  have hby := Bd.bytes
  have hml : c.maxLocals = 2 := hml0
  have hown : s.vm.findClass "java/util/Objects" = some m.cls := findClass_of_methodNamed Bd.named
  have hnm := (name_of_methodNamed Bd.named Bd.method).1
  have X0 : Stand p l e ({ frames := 1, cells := 0, slots := 0, locals := 14 } : Room) s m #[(.int (0 : Int32)), (.int (1 : Int32))] below meth c s₁ [] 0 0 := Stand.of_body Bd
  have e0 : s₁.heap = h0 := by rw [← hh, Bd.state]; rfl
  have N0 := Fr.nil n0
  have pre0 : ∀ t, Steps p.tables e below (s₁.setTop (mkF m 0 #[iv (0 : Int32), iv (1 : Int32)] [])) t → Steps p.tables e below (s₁.setTop (entryFrame m #[(.int (0 : Int32)), (.int (1 : Int32))] 2)) t := fun t k => castTop (ef_11 m (0 : Int32) (1 : Int32)) k
  have K0 : Keep h0 h0 [] := Keep.refl h0 []
  have pre287 : ∀ t, Steps p.tables e below (s₁.setTop (mkF m 3 #[iv (0 : Int32), iv (1 : Int32)] [.null, (.int (1 : Int32)), (.int (0 : Int32))])) t → Steps p.tables e below (s₁.setTop (entryFrame m #[(.int (0 : Int32)), (.int (1 : Int32))] 2)) t := fun t kt => by
    refine pre0 _ ?_
    show Steps p.tables e below (s₁.setTop (mkF m 0 #[iv (0 : Int32), iv (1 : Int32)] [])) _
    refine XS.iloadN X0.here hx rfl (hb hby d5_0) rfl ?_
    show Steps p.tables e below (s₁.setTop (mkF m 1 #[iv (0 : Int32), iv (1 : Int32)] [(.int (0 : Int32))])) _
    refine XS.iloadN X0.here hx rfl (hb hby d5_1) rfl ?_
    show Steps p.tables e below (s₁.setTop (mkF m 2 #[iv (0 : Int32), iv (1 : Int32)] [(.int (1 : Int32)), (.int (0 : Int32))])) _
    refine XS.aconstNull X0.here hx rfl (hb hby d5_2) ?_
    exact kt
  obtain ⟨_, _, ⟨T288, L288, k288, n288⟩, -, X288, ⟨Lc288, hQ288, l288, y288, z288⟩, st288⟩ := Jvm.LawKit.callS X0 hx (y := (⟨"jdk/internal/util/Preconditions", "checkIndex", "(IILjava/util/function/BiFunction;)I"⟩ : MethodName)) hown (mvT hZ (W 33 rfl)) (mvT hZ (W 34 rfl)) (mvT hZ (W 35 rfl)) (mvT hZ (W 36 rfl)) (by decide) (backOf (W := 0) (rm_checkIndex6_0 l Z a0 hw [] h0 n0 O0) hZ (W 36 rfl) (W 35 rfl) (by decide) (by decide)) (g := (mkF m 3 #[iv (0 : Int32), iv (1 : Int32)] [.null, (.int (1 : Int32)), (.int (0 : Int32))])) rfl (by rw [hml]; rfl) (argsL := [(.int (0 : Int32)), (.int (1 : Int32)), .null]) (rest := []) (lenOf pd_9 rfl) rfl (by show 2 * 0 + _ ≤ _; exact Nat.le_of_eq rfl) (hb hby d5_3) (fun _ _ => ⟨rfl, e0, (by decide : 0 + 0 ≤ _), (by decide : 0 + 0 ≤ _)⟩)
  dsimp only [Pt.U, Pt.locs, Pt.cells, Pt.slots] at X288 l288 y288 z288 st288 hQ288
  replace l288 := l288.symm
  replace y288 : 0 = k288 := y288.symm
  replace z288 : 0 = n288 := z288.symm
  subst l288 y288 z288
  obtain ⟨rfl, M288, e288⟩ := hQ288
  have N288 := Fr.app N0 M288
  have pre289 : ∀ t, Steps p.tables e below (T288.setTop (mkF m 6 #[iv (0 : Int32), iv (1 : Int32)] [(.int (0 : Int32))])) t → Steps p.tables e below (s₁.setTop (entryFrame m #[(.int (0 : Int32)), (.int (1 : Int32))] 2)) t := fun t kt => pre287 _ (st288 _ kt)
  obtain ⟨fs, hr, hrun, hended, hW, hsame⟩ := X288.leave (v := some (.int (0 : Int32))) (fun h => by rw [Bd.returns] at h; cases h)
  refine ⟨_, _, pre289 _ (retI X288 hx Bd.returns (hb hby d5_6) hr), hrun, hended, _, _, rfl, ?_, ⟨_, rfl⟩, hW, hsame.mono (by decide) (by decide)⟩
  show Q_checkIndex5_0 Z  h0 n0 _ T288.heap _
  rw [e288]
  exact ⟨rfl, N288, rfl⟩
theorem pd_12 : parseMethodDescriptor "(II)I" = some ⟨[.int, .int], some .int⟩ := by decide +kernel
theorem d4_8 : decode prog_56_method_4_code 8 = .ok (.pop, 1) := by decide +kernel
theorem d4_9 : decode prog_56_method_4_code 9 = .ok (.aload_n 0, 1) := by decide +kernel
theorem d4_10 : decode prog_56_method_4_code 10 = .ok (.getfield 11, 3) := by decide +kernel
theorem d4_13 : decode prog_56_method_4_code 13 = .ok (.iload_n 1, 1) := by decide +kernel
theorem d4_14 : decode prog_56_method_4_code 14 = .ok (.ldc 21, 2) := by decide +kernel
theorem d4_16 : decode prog_56_method_4_code 16 = .ok (.idiv, 1) := by decide +kernel
theorem d4_17 : decode prog_56_method_4_code 17 = .ok (.aaload, 1) := by decide +kernel
theorem d4_18 : decode prog_56_method_4_code 18 = .ok (.iload_n 1, 1) := by decide +kernel
theorem d4_19 : decode prog_56_method_4_code 19 = .ok (.ldc 21, 2) := by decide +kernel
theorem d4_21 : decode prog_56_method_4_code 21 = .ok (.irem, 1) := by decide +kernel
theorem d4_22 : decode prog_56_method_4_code 22 = .ok (.iload_n 2, 1) := by decide +kernel
theorem d4_23 : decode prog_56_method_4_code 23 = .ok (.iastore, 1) := by decide +kernel
theorem d4_24 : decode prog_56_method_4_code 24 = .ok (.return_, 1) := by decide +kernel
theorem ef_13 (m : MethodId) (x0 : Addr) (x1 : Int32) (x2 : Int32) : entryFrame m #[(.ref x0), (.int x1), (.int x2)] 3 = mkF m 0 #[.val (.ref x0), .val (.int x1), .val (.int x2)] [] := by first | (simp [entryFrame, mkF, argsToLocals, Value.category]; done) | rfl
def Q_set4_0 (Z : State) (b4 : Addr) (p5 : Int32) (k51_10 : ClassId) (b51_10 : Addr) (b221_67 : Addr) (p0 : Int32) (k221_67 : ClassId) (h0 : Heap) (n0 : Nat) (v : Option Value) (h : Heap) (L : List Loc) : Prop := v = none ∧ Fr n0 L ∧ Keep h0 h [b221_67] ∧ Old Z n0 h ∧ Exa Z h b221_67 "[I" ∧ Arv Z h b221_67 k221_67 .int (16 : Int32) [(.int p5), (.int (0 : Int32)), (.int (0 : Int32)), (.int (0 : Int32)), (.int (0 : Int32)), (.int (0 : Int32)), (.int (0 : Int32)), (.int (0 : Int32)), (.int (0 : Int32)), (.int (0 : Int32)), (.int (0 : Int32)), (.int (0 : Int32)), (.int (0 : Int32)), (.int (0 : Int32)), (.int (0 : Int32)), (.int (0 : Int32))] (.int (0 : Int32))
set_option maxRecDepth 65536 in
set_option maxHeartbeats 40000000 in
theorem rm_set4_0 (l : Launch) (Z : State) (a0 : Array Value) (hw : ∀ d ∈ tables_1, d.before a0 Z = true) (ws : List Jvm.Cond) (b4 : Addr) (p5 : Int32) (k51_10 : ClassId) (b51_10 : Addr) (b221_67 : Addr) (p0 : Int32) (k221_67 : ClassId) (h0 : Heap) (n0 : Nat) (O0 : Old Z n0 h0) (g_b221_67 : n0 ≤ b221_67) (Fi0 : Fld Z h0 b4 "org/reachwatch/IntBlocks" "blocks" "[[I" (.ref b51_10)) (Fi1 : Exa Z h0 b221_67 "[I") (Fi2 : Arv Z h0 b51_10 k51_10 (.array .int) (1 : Int32) [(.ref b221_67)] .null) (Fi3 : Arv Z h0 b221_67 k221_67 .int (16 : Int32) [(.int p0), (.int (0 : Int32)), (.int (0 : Int32)), (.int (0 : Int32)), (.int (0 : Int32)), (.int (0 : Int32)), (.int (0 : Int32)), (.int (0 : Int32)), (.int (0 : Int32)), (.int (0 : Int32)), (.int (0 : Int32)), (.int (0 : Int32)), (.int (0 : Int32)), (.int (0 : Int32)), (.int (0 : Int32)), (.int (0 : Int32))] (.int (0 : Int32))) (Fi4 : Fld Z h0 b4 "org/reachwatch/IntBlocks" "size" "I" (.int (1 : Int32))) (q0 : ¬ (b221_67 = b4)) (q1 : ¬ (b221_67 = b51_10)) :
    MetFree l (⟨"org/reachwatch/IntBlocks", "set", "(II)V"⟩ : MethodName) (head1 (Jvm.Cond.code (⟨"org/reachwatch/IntBlocks", "set", "(II)V"⟩ : MethodName) prog_56_method_4_code 3 none :: ws) ({ frames := 2, cells := 0, slots := 0, locals := 27 } : Room)) (fun a U => a = #[(.ref b4), (.int (0 : Int32)), (.int p5)] ∧ Z.Warmed39 U.vm ∧ U.heap = h0) (fun _ _ _ _ _ => True) (fun _ U o U' => ∃ v L, o = .returned v ∧ Q_set4_0 Z b4 p5 k51_10 b51_10 b221_67 p0 k221_67 h0 n0 v U'.heap L ∧ FrameEnd U o U' L ({ frames := 2, cells := 0, slots := 0, locals := 27 } : Room).cells ({ frames := 2, cells := 0, slots := 0, locals := 27 } : Room).slots) := by
  refine MetFree.of_bodySF (plainFor_of_name pn_2) hisR ?_
  intro p e s m args below meth c s₁ Bd hml0 hP hK
  have W := fun {d : Jvm.Cond} (i : Nat) (q : tables_1[i]? = some d) => hw d (List.mem_of_getElem? q)
  obtain ⟨rfl, hZ, hh⟩ := hP
  have hx := Bd.exec
  have hby := Bd.bytes
  have hml : c.maxLocals = 3 := hml0
  have hown : s.vm.findClass "org/reachwatch/IntBlocks" = some m.cls := findClass_of_methodNamed Bd.named
  have hnm := (name_of_methodNamed Bd.named Bd.method).1
  have X0 : Stand p l e ({ frames := 2, cells := 0, slots := 0, locals := 27 } : Room) s m #[(.ref b4), (.int (0 : Int32)), (.int p5)] below meth c s₁ [] 0 0 := Stand.of_body Bd
  have e0 : s₁.heap = h0 := by rw [← hh, Bd.state]; rfl
  have N0 := Fr.nil n0
  have pre0 : ∀ t, Steps p.tables e below (s₁.setTop (mkF m 0 #[rv b4, iv (0 : Int32), iv p5] [])) t → Steps p.tables e below (s₁.setTop (entryFrame m #[(.ref b4), (.int (0 : Int32)), (.int p5)] 3)) t := fun t k => castTop (ef_13 m b4 (0 : Int32) p5) k
  have K0 : Keep h0 h0 [b221_67] := Keep.refl h0 [b221_67]
  have pre326 : ∀ t, Steps p.tables e below (s₁.setTop (mkF m 2 #[rv b4, iv (0 : Int32), iv p5] [(.ref b4), (.int (0 : Int32))])) t → Steps p.tables e below (s₁.setTop (entryFrame m #[(.ref b4), (.int (0 : Int32)), (.int p5)] 3)) t := fun t kt => by
    refine pre0 _ ?_
    show Steps p.tables e below (s₁.setTop (mkF m 0 #[rv b4, iv (0 : Int32), iv p5] [])) _
    refine XS.iloadN X0.here hx rfl (hb hby d4_0) rfl ?_
    show Steps p.tables e below (s₁.setTop (mkF m 1 #[rv b4, iv (0 : Int32), iv p5] [(.int (0 : Int32))])) _
    refine XS.aloadN X0.here hx rfl (hb hby d4_1) rfl rfl ?_
    exact kt
  obtain ⟨T327, X327, e327, st327⟩ := getF X0 hx hZ hown (host := "") (Or.inl (W 19 rfl)) Via.refl e0 Fi4 (g := (mkF m 2 #[rv b4, iv (0 : Int32), iv p5] [(.ref b4), (.int (0 : Int32))])) rfl rfl (hb hby d4_2)
  have pre328 : ∀ t, Steps p.tables e below (T327.setTop (mkF m 5 #[rv b4, iv (0 : Int32), iv p5] [(.int (1 : Int32)), (.int (0 : Int32))])) t → Steps p.tables e below (s₁.setTop (entryFrame m #[(.ref b4), (.int (0 : Int32)), (.int p5)] 3)) t := fun t kt => pre326 _ (st327 _ kt)
  obtain ⟨_, _, ⟨T329, L329, k329, n329⟩, -, X329, ⟨Lc329, hQ329, l329, y329, z329⟩, st329⟩ := Jvm.LawKit.callS X327 hx (y := (⟨"java/util/Objects", "checkIndex", "(II)I"⟩ : MethodName)) hown (mvT hZ (W 29 rfl)) (mvT hZ (W 30 rfl)) (mvT hZ (W 31 rfl)) (mvT hZ (W 32 rfl)) (by decide) (backOf (W := 0) (rm_checkIndex5_0 l Z a0 hw [] h0 n0 O0) hZ (W 32 rfl) (W 31 rfl) (by decide) (by decide)) (g := (mkF m 5 #[rv b4, iv (0 : Int32), iv p5] [(.int (1 : Int32)), (.int (0 : Int32))])) rfl (by rw [hml]; rfl) (argsL := [(.int (0 : Int32)), (.int (1 : Int32))]) (rest := []) (lenOf pd_12 rfl) rfl (by show 2 * 0 + _ ≤ _; exact Nat.le_of_eq rfl) (hb hby d4_5) (fun _ _ => ⟨rfl, e327, (by decide : 0 + 0 ≤ _), (by decide : 0 + 0 ≤ _)⟩)
  dsimp only [Pt.U, Pt.locs, Pt.cells, Pt.slots] at X329 l329 y329 z329 st329 hQ329
  replace l329 := l329.symm
  replace y329 : 0 = k329 := y329.symm
  replace z329 : 0 = n329 := z329.symm
  subst l329 y329 z329
  obtain ⟨rfl, M329, e329⟩ := hQ329
  have N329 := Fr.app N0 M329
  have pre330 : ∀ t, Steps p.tables e below (T329.setTop (mkF m 8 #[rv b4, iv (0 : Int32), iv p5] [(.int (0 : Int32))])) t → Steps p.tables e below (s₁.setTop (entryFrame m #[(.ref b4), (.int (0 : Int32)), (.int p5)] 3)) t := fun t kt => pre328 _ (st329 _ kt)
  have pre331 : ∀ t, Steps p.tables e below (T329.setTop (mkF m 10 #[rv b4, iv (0 : Int32), iv p5] [(.ref b4)])) t → Steps p.tables e below (s₁.setTop (entryFrame m #[(.ref b4), (.int (0 : Int32)), (.int p5)] 3)) t := fun t kt => by
    refine pre330 _ ?_
    show Steps p.tables e below (T329.setTop (mkF m 8 #[rv b4, iv (0 : Int32), iv p5] [(.int (0 : Int32))])) _
    refine XS.pop X329.here hx rfl (hb hby d4_8) rfl rfl ?_
    show Steps p.tables e below (T329.setTop (mkF m 9 #[rv b4, iv (0 : Int32), iv p5] [])) _
    refine XS.aloadN X329.here hx rfl (hb hby d4_9) rfl rfl ?_
    exact kt
  obtain ⟨T332, X332, e332, st332⟩ := getF X329 hx hZ hown (host := "") (Or.inl (W 12 rfl)) Via.refl e329 Fi0 (g := (mkF m 10 #[rv b4, iv (0 : Int32), iv p5] [(.ref b4)])) rfl rfl (hb hby d4_10)
  have pre333 : ∀ t, Steps p.tables e below (T332.setTop (mkF m 13 #[rv b4, iv (0 : Int32), iv p5] [(.ref b51_10)])) t → Steps p.tables e below (s₁.setTop (entryFrame m #[(.ref b4), (.int (0 : Int32)), (.int p5)] 3)) t := fun t kt => pre331 _ (st332 _ kt)
  have pre335 : ∀ t, Steps p.tables e below (T332.setTop (mkF m 17 #[rv b4, iv (0 : Int32), iv p5] [(.int (0 : Int32)), (.ref b51_10)])) t → Steps p.tables e below (s₁.setTop (entryFrame m #[(.ref b4), (.int (0 : Int32)), (.int p5)] 3)) t := fun t kt => by
    refine pre333 _ ?_
    show Steps p.tables e below (T332.setTop (mkF m 13 #[rv b4, iv (0 : Int32), iv p5] [(.ref b51_10)])) _
    refine XS.iloadN X332.here hx rfl (hb hby d4_13) rfl ?_
    show Steps p.tables e below (T332.setTop (mkF m 14 #[rv b4, iv (0 : Int32), iv p5] [(.int (0 : Int32)), (.ref b51_10)])) _
    refine X332.ldcInt hx hown (mvT hZ (W 21 rfl)) (g := (mkF m 14 #[rv b4, iv (0 : Int32), iv p5] [(.int (0 : Int32)), (.ref b51_10)])) rfl (hb hby d4_14) _ ?_
    show Steps p.tables e below (T332.setTop (mkF m 16 #[rv b4, iv (0 : Int32), iv p5] [(.int (65536 : Int32)), (.int (0 : Int32)), (.ref b51_10)])) _
    refine XS.idiv X332.here hx rfl (hb hby d4_16) rfl (by decide) ?_
    show  Steps p.tables e below (T332.setTop (mkF m 17 #[rv b4, iv (0 : Int32), iv p5] [(.int ((0 : Int32) / (65536 : Int32))), (.ref b51_10)])) _
    rw [(by decide : (((0 : Int32) / (65536 : Int32)) : Int32) = (0 : Int32))]
    exact kt
  obtain ⟨c334, Ar334, q334, S334, M334, H334, G334⟩ := id Fi2
  have i334 : ¬ ((0 : Int32) < 0 ∨ c334.slots.size ≤ ((0 : Int32)).toNatClampNeg) := inb_of S334 ⟨by decide, by decide⟩
  have t334 : c334.slots[((0 : Int32)).toNatClampNeg]? = some (.ref b221_67) := Has.at H334 i334 rfl
  have pre336 : ∀ t, Steps p.tables e below (T332.setTop (mkF m 23 #[rv b4, iv (0 : Int32), iv p5] [(.int p5), (.int (0 : Int32)), (.ref b221_67)])) t → Steps p.tables e below (s₁.setTop (entryFrame m #[(.ref b4), (.int (0 : Int32)), (.int p5)] 3)) t := fun t kt => by
    refine pre335 _ ?_
    show Steps p.tables e below (T332.setTop (mkF m 17 #[rv b4, iv (0 : Int32), iv p5] [(.int (0 : Int32)), (.ref b51_10)])) _
    refine X332.aaload hx (j := (0 : Int32)) (v := (.ref b221_67)) (by rw [e332]; exact Ar334.1) (State.isArrayOf_alike hZ.alike Ar334.2.1) rfl Ar334.2.2 i334 t334 (g := (mkF m 17 #[rv b4, iv (0 : Int32), iv p5] [(.int (0 : Int32)), (.ref b51_10)])) rfl rfl (hb hby d4_17) _ ?_
    show Steps p.tables e below (T332.setTop (mkF m 18 #[rv b4, iv (0 : Int32), iv p5] [(.ref b221_67)])) _
    refine XS.iloadN X332.here hx rfl (hb hby d4_18) rfl ?_
    show Steps p.tables e below (T332.setTop (mkF m 19 #[rv b4, iv (0 : Int32), iv p5] [(.int (0 : Int32)), (.ref b221_67)])) _
    refine X332.ldcInt hx hown (mvT hZ (W 21 rfl)) (g := (mkF m 19 #[rv b4, iv (0 : Int32), iv p5] [(.int (0 : Int32)), (.ref b221_67)])) rfl (hb hby d4_19) _ ?_
    show Steps p.tables e below (T332.setTop (mkF m 21 #[rv b4, iv (0 : Int32), iv p5] [(.int (65536 : Int32)), (.int (0 : Int32)), (.ref b221_67)])) _
    refine XS.irem X332.here hx rfl (hb hby d4_21) rfl (by decide) ?_
    show  Steps p.tables e below (T332.setTop (mkF m 22 #[rv b4, iv (0 : Int32), iv p5] [(.int ((0 : Int32) - ((0 : Int32) / (65536 : Int32)) * (65536 : Int32))), (.ref b221_67)])) _
    rw [(by decide : (((0 : Int32) - ((0 : Int32) / (65536 : Int32)) * (65536 : Int32)) : Int32) = (0 : Int32))]
    show Steps p.tables e below (T332.setTop (mkF m 22 #[rv b4, iv (0 : Int32), iv p5] [(.int (0 : Int32)), (.ref b221_67)])) _
    refine XS.iloadN X332.here hx rfl (hb hby d4_22) rfl ?_
    exact kt
  obtain ⟨c337, Ar337, q337, S337, M337, H337, G337⟩ := id Fi3
  have i337 : ¬ ((0 : Int32) < 0 ∨ c337.slots.size ≤ ((0 : Int32)).toNatClampNeg) := inb_of S337 ⟨by decide, by decide⟩
  obtain ⟨T338, h338, X338, e338, W338, st338⟩ := stI X332 hx hZ e332 Ar337 (j := (0 : Int32)) i337 (g := (mkF m 23 #[rv b4, iv (0 : Int32), iv p5] [(.int p5), (.int (0 : Int32)), (.ref b221_67)])) rfl rfl (hb hby d4_23)
  have pre339 : ∀ t, Steps p.tables e below (T338.setTop (mkF m 24 #[rv b4, iv (0 : Int32), iv p5] [])) t → Steps p.tables e below (s₁.setTop (entryFrame m #[(.ref b4), (.int (0 : Int32)), (.int p5)] 3)) t := fun t kt => pre336 _ (st338 _ kt)
  have N338 := Fr.snoc X338 N329 g_b221_67
  have O338 := O0.wr W338 g_b221_67
  have K338 : Keep h0 h338 [b221_67] := K0.wr W338 (Or.inl (List.mem_of_getElem? (i := 0) rfl))
  have F340 := Fi0.other W338 (Or.inl (fun q => q0 q.symm))
  have F341 := Fi1.wr W338
  have F342 := Fi2.other W338 (fun q => q1 q.symm)
  have F343 := Fi4.other W338 (Or.inl (fun q => q0 q.symm))
  have F344 : Arv Z h338 b221_67 k221_67 .int (16 : Int32) [(.int p5), (.int (0 : Int32)), (.int (0 : Int32)), (.int (0 : Int32)), (.int (0 : Int32)), (.int (0 : Int32)), (.int (0 : Int32)), (.int (0 : Int32)), (.int (0 : Int32)), (.int (0 : Int32)), (.int (0 : Int32)), (.int (0 : Int32)), (.int (0 : Int32)), (.int (0 : Int32)), (.int (0 : Int32)), (.int (0 : Int32))] (.int (0 : Int32)) := Arv.set Ar337 q337 S337 M337 H337 G337 rfl W338 0 rfl (Nat.le_of_ble_eq_true rfl)
  obtain ⟨fs, hr, hrun, hended, hW, hsame⟩ := X338.leave (v := none) (fun _ => rfl)
  refine ⟨_, _, pre339 _ (X338.returnOut hx Bd.returns (hb hby d4_24) hr), hrun, hended, _, _, rfl, ?_, ⟨_, rfl⟩, hW, hsame.mono (by decide) (by decide)⟩
  show Q_set4_0 Z b4 p5 k51_10 b51_10 b221_67 p0 k221_67 h0 n0 _ T338.heap _
  rw [e338]
  exact ⟨rfl, N338, K338, O338, F341, F344⟩
theorem pd_14 : parseMethodDescriptor "(II)V" = some ⟨[.int, .int], none⟩ := by decide +kernel
theorem d7_0 : decode prog_56_method_5_code 0 = .ok (.aload_n 0, 1) := by decide +kernel
theorem d7_1 : decode prog_56_method_5_code 1 = .ok (.getfield 17, 3) := by decide +kernel
theorem d7_4 : decode prog_56_method_5_code 4 = .ok (.ireturn, 1) := by decide +kernel
theorem ef_15 (m : MethodId) (x0 : Addr) : entryFrame m #[(.ref x0)] 1 = mkF m 0 #[.val (.ref x0)] [] := by first | (simp [entryFrame, mkF, argsToLocals, Value.category]; done) | rfl
def Q_size7_0 (Z : State) (b4 : Addr) (h0 : Heap) (n0 : Nat) (v : Option Value) (h : Heap) (L : List Loc) : Prop := v = some (.int (1 : Int32)) ∧ Fr n0 L ∧ h = h0
set_option maxRecDepth 65536 in
set_option maxHeartbeats 40000000 in
theorem rm_size7_0 (l : Launch) (Z : State) (a0 : Array Value) (hw : ∀ d ∈ tables_1, d.before a0 Z = true) (ws : List Jvm.Cond) (b4 : Addr) (h0 : Heap) (n0 : Nat) (O0 : Old Z n0 h0) (Fi0 : Fld Z h0 b4 "org/reachwatch/IntBlocks" "size" "I" (.int (1 : Int32))) :
    MetFree l (⟨"org/reachwatch/IntBlocks", "size", "()I"⟩ : MethodName) (head1 (Jvm.Cond.code (⟨"org/reachwatch/IntBlocks", "size", "()I"⟩ : MethodName) prog_56_method_5_code 1 (some .int) :: ws) ({ frames := 0, cells := 0, slots := 0, locals := 0 } : Room)) (fun a U => a = #[(.ref b4)] ∧ Z.Warmed39 U.vm ∧ U.heap = h0) (fun _ _ _ _ _ => True) (fun _ U o U' => ∃ v L, o = .returned v ∧ Q_size7_0 Z b4 h0 n0 v U'.heap L ∧ FrameEnd U o U' L ({ frames := 0, cells := 0, slots := 0, locals := 0 } : Room).cells ({ frames := 0, cells := 0, slots := 0, locals := 0 } : Room).slots) := by
  refine MetFree.of_bodySF (plainFor_of_name pn_2) hisR ?_
  intro p e s m args below meth c s₁ Bd hml0 hP hK
  have W := fun {d : Jvm.Cond} (i : Nat) (q : tables_1[i]? = some d) => hw d (List.mem_of_getElem? q)
  obtain ⟨rfl, hZ, hh⟩ := hP
  have hx := Bd.exec
  have hby := Bd.bytes
  have hml : c.maxLocals = 1 := hml0
  have hown : s.vm.findClass "org/reachwatch/IntBlocks" = some m.cls := findClass_of_methodNamed Bd.named
  have hnm := (name_of_methodNamed Bd.named Bd.method).1
  have X0 : Stand p l e ({ frames := 0, cells := 0, slots := 0, locals := 0 } : Room) s m #[(.ref b4)] below meth c s₁ [] 0 0 := Stand.of_body Bd
  have e0 : s₁.heap = h0 := by rw [← hh, Bd.state]; rfl
  have N0 := Fr.nil n0
  have pre0 : ∀ t, Steps p.tables e below (s₁.setTop (mkF m 0 #[rv b4] [])) t → Steps p.tables e below (s₁.setTop (entryFrame m #[(.ref b4)] 1)) t := fun t k => castTop (ef_15 m b4) k
  have K0 : Keep h0 h0 [] := Keep.refl h0 []
  have pre359 : ∀ t, Steps p.tables e below (s₁.setTop (mkF m 1 #[rv b4] [(.ref b4)])) t → Steps p.tables e below (s₁.setTop (entryFrame m #[(.ref b4)] 1)) t := fun t kt => by
    refine pre0 _ ?_
    show Steps p.tables e below (s₁.setTop (mkF m 0 #[rv b4] [])) _
    refine XS.aloadN X0.here hx rfl (hb hby d7_0) rfl rfl ?_
    exact kt
  obtain ⟨T360, X360, e360, st360⟩ := getF X0 hx hZ hown (host := "") (Or.inl (W 19 rfl)) Via.refl e0 Fi0 (g := (mkF m 1 #[rv b4] [(.ref b4)])) rfl rfl (hb hby d7_1)
  have pre361 : ∀ t, Steps p.tables e below (T360.setTop (mkF m 4 #[rv b4] [(.int (1 : Int32))])) t → Steps p.tables e below (s₁.setTop (entryFrame m #[(.ref b4)] 1)) t := fun t kt => pre359 _ (st360 _ kt)
  obtain ⟨fs, hr, hrun, hended, hW, hsame⟩ := X360.leave (v := some (.int (1 : Int32))) (fun h => by rw [Bd.returns] at h; cases h)
  refine ⟨_, _, pre361 _ (retI X360 hx Bd.returns (hb hby d7_4) hr), hrun, hended, _, _, rfl, ?_, ⟨_, rfl⟩, hW, hsame.mono (by decide) (by decide)⟩
  show Q_size7_0 Z b4 h0 n0 _ T360.heap _
  rw [e360]
  exact ⟨rfl, N0, rfl⟩
theorem pd_16 : parseMethodDescriptor "()I" = some ⟨[], some .int⟩ := by decide +kernel
theorem d8_0 : decode prog_56_method_3_code 0 = .ok (.iload_n 1, 1) := by decide +kernel
theorem d8_1 : decode prog_56_method_3_code 1 = .ok (.aload_n 0, 1) := by decide +kernel
theorem d8_2 : decode prog_56_method_3_code 2 = .ok (.getfield 17, 3) := by decide +kernel
theorem d8_5 : decode prog_56_method_3_code 5 = .ok (.invokestatic 32, 3) := by decide +kernel
theorem d8_8 : decode prog_56_method_3_code 8 = .ok (.pop, 1) := by decide +kernel
theorem d8_9 : decode prog_56_method_3_code 9 = .ok (.aload_n 0, 1) := by decide +kernel
theorem d8_10 : decode prog_56_method_3_code 10 = .ok (.getfield 11, 3) := by decide +kernel
theorem d8_13 : decode prog_56_method_3_code 13 = .ok (.iload_n 1, 1) := by decide +kernel
theorem d8_14 : decode prog_56_method_3_code 14 = .ok (.ldc 21, 2) := by decide +kernel
theorem d8_16 : decode prog_56_method_3_code 16 = .ok (.idiv, 1) := by decide +kernel
theorem d8_17 : decode prog_56_method_3_code 17 = .ok (.aaload, 1) := by decide +kernel
theorem d8_18 : decode prog_56_method_3_code 18 = .ok (.iload_n 1, 1) := by decide +kernel
theorem d8_19 : decode prog_56_method_3_code 19 = .ok (.ldc 21, 2) := by decide +kernel
theorem d8_21 : decode prog_56_method_3_code 21 = .ok (.irem, 1) := by decide +kernel
theorem d8_22 : decode prog_56_method_3_code 22 = .ok (.iaload, 1) := by decide +kernel
theorem d8_23 : decode prog_56_method_3_code 23 = .ok (.ireturn, 1) := by decide +kernel
theorem ef_17 (m : MethodId) (x0 : Addr) (x1 : Int32) : entryFrame m #[(.ref x0), (.int x1)] 2 = mkF m 0 #[.val (.ref x0), .val (.int x1)] [] := by first | (simp [entryFrame, mkF, argsToLocals, Value.category]; done) | rfl
def Q_get8_0 (Z : State) (b4 : Addr) (k51_10 : ClassId) (b51_10 : Addr) (b221_67 : Addr) (p5 : Int32) (k221_67 : ClassId) (h0 : Heap) (n0 : Nat) (v : Option Value) (h : Heap) (L : List Loc) : Prop := v = some (.int p5) ∧ Fr n0 L ∧ h = h0
set_option maxRecDepth 65536 in
set_option maxHeartbeats 40000000 in
theorem rm_get8_0 (l : Launch) (Z : State) (a0 : Array Value) (hw : ∀ d ∈ tables_1, d.before a0 Z = true) (ws : List Jvm.Cond) (b4 : Addr) (k51_10 : ClassId) (b51_10 : Addr) (b221_67 : Addr) (p5 : Int32) (k221_67 : ClassId) (h0 : Heap) (n0 : Nat) (O0 : Old Z n0 h0) (Fi0 : Fld Z h0 b4 "org/reachwatch/IntBlocks" "blocks" "[[I" (.ref b51_10)) (Fi1 : Arv Z h0 b51_10 k51_10 (.array .int) (1 : Int32) [(.ref b221_67)] .null) (Fi2 : Fld Z h0 b4 "org/reachwatch/IntBlocks" "size" "I" (.int (1 : Int32))) (Fi3 : Arv Z h0 b221_67 k221_67 .int (16 : Int32) [(.int p5), (.int (0 : Int32)), (.int (0 : Int32)), (.int (0 : Int32)), (.int (0 : Int32)), (.int (0 : Int32)), (.int (0 : Int32)), (.int (0 : Int32)), (.int (0 : Int32)), (.int (0 : Int32)), (.int (0 : Int32)), (.int (0 : Int32)), (.int (0 : Int32)), (.int (0 : Int32)), (.int (0 : Int32)), (.int (0 : Int32))] (.int (0 : Int32))) :
    MetFree l (⟨"org/reachwatch/IntBlocks", "get", "(I)I"⟩ : MethodName) (head1 (Jvm.Cond.code (⟨"org/reachwatch/IntBlocks", "get", "(I)I"⟩ : MethodName) prog_56_method_3_code 2 (some .int) :: ws) ({ frames := 2, cells := 0, slots := 0, locals := 27 } : Room)) (fun a U => a = #[(.ref b4), (.int (0 : Int32))] ∧ Z.Warmed39 U.vm ∧ U.heap = h0) (fun _ _ _ _ _ => True) (fun _ U o U' => ∃ v L, o = .returned v ∧ Q_get8_0 Z b4 k51_10 b51_10 b221_67 p5 k221_67 h0 n0 v U'.heap L ∧ FrameEnd U o U' L ({ frames := 2, cells := 0, slots := 0, locals := 27 } : Room).cells ({ frames := 2, cells := 0, slots := 0, locals := 27 } : Room).slots) := by
  refine MetFree.of_bodySF (plainFor_of_name pn_2) hisR ?_
  intro p e s m args below meth c s₁ Bd hml0 hP hK
  have W := fun {d : Jvm.Cond} (i : Nat) (q : tables_1[i]? = some d) => hw d (List.mem_of_getElem? q)
  obtain ⟨rfl, hZ, hh⟩ := hP
  have hx := Bd.exec
  have hby := Bd.bytes
  have hml : c.maxLocals = 2 := hml0
  have hown : s.vm.findClass "org/reachwatch/IntBlocks" = some m.cls := findClass_of_methodNamed Bd.named
  have hnm := (name_of_methodNamed Bd.named Bd.method).1
  have X0 : Stand p l e ({ frames := 2, cells := 0, slots := 0, locals := 27 } : Room) s m #[(.ref b4), (.int (0 : Int32))] below meth c s₁ [] 0 0 := Stand.of_body Bd
  have e0 : s₁.heap = h0 := by rw [← hh, Bd.state]; rfl
  have N0 := Fr.nil n0
  have pre0 : ∀ t, Steps p.tables e below (s₁.setTop (mkF m 0 #[rv b4, iv (0 : Int32)] [])) t → Steps p.tables e below (s₁.setTop (entryFrame m #[(.ref b4), (.int (0 : Int32))] 2)) t := fun t k => castTop (ef_17 m b4 (0 : Int32)) k
  have K0 : Keep h0 h0 [] := Keep.refl h0 []
  have pre391 : ∀ t, Steps p.tables e below (s₁.setTop (mkF m 2 #[rv b4, iv (0 : Int32)] [(.ref b4), (.int (0 : Int32))])) t → Steps p.tables e below (s₁.setTop (entryFrame m #[(.ref b4), (.int (0 : Int32))] 2)) t := fun t kt => by
    refine pre0 _ ?_
    show Steps p.tables e below (s₁.setTop (mkF m 0 #[rv b4, iv (0 : Int32)] [])) _
    refine XS.iloadN X0.here hx rfl (hb hby d8_0) rfl ?_
    show Steps p.tables e below (s₁.setTop (mkF m 1 #[rv b4, iv (0 : Int32)] [(.int (0 : Int32))])) _
    refine XS.aloadN X0.here hx rfl (hb hby d8_1) rfl rfl ?_
    exact kt
  obtain ⟨T392, X392, e392, st392⟩ := getF X0 hx hZ hown (host := "") (Or.inl (W 19 rfl)) Via.refl e0 Fi2 (g := (mkF m 2 #[rv b4, iv (0 : Int32)] [(.ref b4), (.int (0 : Int32))])) rfl rfl (hb hby d8_2)
  have pre393 : ∀ t, Steps p.tables e below (T392.setTop (mkF m 5 #[rv b4, iv (0 : Int32)] [(.int (1 : Int32)), (.int (0 : Int32))])) t → Steps p.tables e below (s₁.setTop (entryFrame m #[(.ref b4), (.int (0 : Int32))] 2)) t := fun t kt => pre391 _ (st392 _ kt)
  obtain ⟨_, _, ⟨T394, L394, k394, n394⟩, -, X394, ⟨Lc394, hQ394, l394, y394, z394⟩, st394⟩ := Jvm.LawKit.callS X392 hx (y := (⟨"java/util/Objects", "checkIndex", "(II)I"⟩ : MethodName)) hown (mvT hZ (W 29 rfl)) (mvT hZ (W 30 rfl)) (mvT hZ (W 31 rfl)) (mvT hZ (W 32 rfl)) (by decide) (backOf (W := 0) (rm_checkIndex5_0 l Z a0 hw [] h0 n0 O0) hZ (W 32 rfl) (W 31 rfl) (by decide) (by decide)) (g := (mkF m 5 #[rv b4, iv (0 : Int32)] [(.int (1 : Int32)), (.int (0 : Int32))])) rfl (by rw [hml]; rfl) (argsL := [(.int (0 : Int32)), (.int (1 : Int32))]) (rest := []) (lenOf pd_12 rfl) rfl (by show 2 * 0 + _ ≤ _; exact Nat.le_of_eq rfl) (hb hby d8_5) (fun _ _ => ⟨rfl, e392, (by decide : 0 + 0 ≤ _), (by decide : 0 + 0 ≤ _)⟩)
  dsimp only [Pt.U, Pt.locs, Pt.cells, Pt.slots] at X394 l394 y394 z394 st394 hQ394
  replace l394 := l394.symm
  replace y394 : 0 = k394 := y394.symm
  replace z394 : 0 = n394 := z394.symm
  subst l394 y394 z394
  obtain ⟨rfl, M394, e394⟩ := hQ394
  have N394 := Fr.app N0 M394
  have pre395 : ∀ t, Steps p.tables e below (T394.setTop (mkF m 8 #[rv b4, iv (0 : Int32)] [(.int (0 : Int32))])) t → Steps p.tables e below (s₁.setTop (entryFrame m #[(.ref b4), (.int (0 : Int32))] 2)) t := fun t kt => pre393 _ (st394 _ kt)
  have pre396 : ∀ t, Steps p.tables e below (T394.setTop (mkF m 10 #[rv b4, iv (0 : Int32)] [(.ref b4)])) t → Steps p.tables e below (s₁.setTop (entryFrame m #[(.ref b4), (.int (0 : Int32))] 2)) t := fun t kt => by
    refine pre395 _ ?_
    show Steps p.tables e below (T394.setTop (mkF m 8 #[rv b4, iv (0 : Int32)] [(.int (0 : Int32))])) _
    refine XS.pop X394.here hx rfl (hb hby d8_8) rfl rfl ?_
    show Steps p.tables e below (T394.setTop (mkF m 9 #[rv b4, iv (0 : Int32)] [])) _
    refine XS.aloadN X394.here hx rfl (hb hby d8_9) rfl rfl ?_
    exact kt
  obtain ⟨T397, X397, e397, st397⟩ := getF X394 hx hZ hown (host := "") (Or.inl (W 12 rfl)) Via.refl e394 Fi0 (g := (mkF m 10 #[rv b4, iv (0 : Int32)] [(.ref b4)])) rfl rfl (hb hby d8_10)
  have pre398 : ∀ t, Steps p.tables e below (T397.setTop (mkF m 13 #[rv b4, iv (0 : Int32)] [(.ref b51_10)])) t → Steps p.tables e below (s₁.setTop (entryFrame m #[(.ref b4), (.int (0 : Int32))] 2)) t := fun t kt => pre396 _ (st397 _ kt)
  have pre400 : ∀ t, Steps p.tables e below (T397.setTop (mkF m 17 #[rv b4, iv (0 : Int32)] [(.int (0 : Int32)), (.ref b51_10)])) t → Steps p.tables e below (s₁.setTop (entryFrame m #[(.ref b4), (.int (0 : Int32))] 2)) t := fun t kt => by
    refine pre398 _ ?_
    show Steps p.tables e below (T397.setTop (mkF m 13 #[rv b4, iv (0 : Int32)] [(.ref b51_10)])) _
    refine XS.iloadN X397.here hx rfl (hb hby d8_13) rfl ?_
    show Steps p.tables e below (T397.setTop (mkF m 14 #[rv b4, iv (0 : Int32)] [(.int (0 : Int32)), (.ref b51_10)])) _
    refine X397.ldcInt hx hown (mvT hZ (W 21 rfl)) (g := (mkF m 14 #[rv b4, iv (0 : Int32)] [(.int (0 : Int32)), (.ref b51_10)])) rfl (hb hby d8_14) _ ?_
    show Steps p.tables e below (T397.setTop (mkF m 16 #[rv b4, iv (0 : Int32)] [(.int (65536 : Int32)), (.int (0 : Int32)), (.ref b51_10)])) _
    refine XS.idiv X397.here hx rfl (hb hby d8_16) rfl (by decide) ?_
    show  Steps p.tables e below (T397.setTop (mkF m 17 #[rv b4, iv (0 : Int32)] [(.int ((0 : Int32) / (65536 : Int32))), (.ref b51_10)])) _
    rw [(by decide : (((0 : Int32) / (65536 : Int32)) : Int32) = (0 : Int32))]
    exact kt
  obtain ⟨c399, Ar399, q399, S399, M399, H399, G399⟩ := id Fi1
  have i399 : ¬ ((0 : Int32) < 0 ∨ c399.slots.size ≤ ((0 : Int32)).toNatClampNeg) := inb_of S399 ⟨by decide, by decide⟩
  have t399 : c399.slots[((0 : Int32)).toNatClampNeg]? = some (.ref b221_67) := Has.at H399 i399 rfl
  have pre402 : ∀ t, Steps p.tables e below (T397.setTop (mkF m 22 #[rv b4, iv (0 : Int32)] [(.int (0 : Int32)), (.ref b221_67)])) t → Steps p.tables e below (s₁.setTop (entryFrame m #[(.ref b4), (.int (0 : Int32))] 2)) t := fun t kt => by
    refine pre400 _ ?_
    show Steps p.tables e below (T397.setTop (mkF m 17 #[rv b4, iv (0 : Int32)] [(.int (0 : Int32)), (.ref b51_10)])) _
    refine X397.aaload hx (j := (0 : Int32)) (v := (.ref b221_67)) (by rw [e397]; exact Ar399.1) (State.isArrayOf_alike hZ.alike Ar399.2.1) rfl Ar399.2.2 i399 t399 (g := (mkF m 17 #[rv b4, iv (0 : Int32)] [(.int (0 : Int32)), (.ref b51_10)])) rfl rfl (hb hby d8_17) _ ?_
    show Steps p.tables e below (T397.setTop (mkF m 18 #[rv b4, iv (0 : Int32)] [(.ref b221_67)])) _
    refine XS.iloadN X397.here hx rfl (hb hby d8_18) rfl ?_
    show Steps p.tables e below (T397.setTop (mkF m 19 #[rv b4, iv (0 : Int32)] [(.int (0 : Int32)), (.ref b221_67)])) _
    refine X397.ldcInt hx hown (mvT hZ (W 21 rfl)) (g := (mkF m 19 #[rv b4, iv (0 : Int32)] [(.int (0 : Int32)), (.ref b221_67)])) rfl (hb hby d8_19) _ ?_
    show Steps p.tables e below (T397.setTop (mkF m 21 #[rv b4, iv (0 : Int32)] [(.int (65536 : Int32)), (.int (0 : Int32)), (.ref b221_67)])) _
    refine XS.irem X397.here hx rfl (hb hby d8_21) rfl (by decide) ?_
    show  Steps p.tables e below (T397.setTop (mkF m 22 #[rv b4, iv (0 : Int32)] [(.int ((0 : Int32) - ((0 : Int32) / (65536 : Int32)) * (65536 : Int32))), (.ref b221_67)])) _
    rw [(by decide : (((0 : Int32) - ((0 : Int32) / (65536 : Int32)) * (65536 : Int32)) : Int32) = (0 : Int32))]
    exact kt
  obtain ⟨c401, Ar401, q401, S401, M401, H401, G401⟩ := id Fi3
  have i401 : ¬ ((0 : Int32) < 0 ∨ c401.slots.size ≤ ((0 : Int32)).toNatClampNeg) := inb_of S401 ⟨by decide, by decide⟩
  have t401 : c401.slots[((0 : Int32)).toNatClampNeg]? = some (.int p5) := Has.at H401 i401 rfl
  have pre403 : ∀ t, Steps p.tables e below (T397.setTop (mkF m 23 #[rv b4, iv (0 : Int32)] [(.int p5)])) t → Steps p.tables e below (s₁.setTop (entryFrame m #[(.ref b4), (.int (0 : Int32))] 2)) t := fun t kt => by
    refine pre402 _ ?_
    show Steps p.tables e below (T397.setTop (mkF m 22 #[rv b4, iv (0 : Int32)] [(.int (0 : Int32)), (.ref b221_67)])) _
    refine X397.iaload hx (j := (0 : Int32)) (v := (.int p5)) (by rw [e397]; exact Ar401.1) (State.isArrayOf_alike hZ.alike Ar401.2.1) Ar401.2.2 i401 t401 (g := (mkF m 22 #[rv b4, iv (0 : Int32)] [(.int (0 : Int32)), (.ref b221_67)])) rfl rfl (hb hby d8_22) _ ?_
    exact kt
  obtain ⟨fs, hr, hrun, hended, hW, hsame⟩ := X397.leave (v := some (.int p5)) (fun h => by rw [Bd.returns] at h; cases h)
  refine ⟨_, _, pre403 _ (retI X397 hx Bd.returns (hb hby d8_23) hr), hrun, hended, _, _, rfl, ?_, ⟨_, rfl⟩, hW, hsame.mono (by decide) (by decide)⟩
  show Q_get8_0 Z b4 k51_10 b51_10 b221_67 p5 k221_67 h0 n0 _ T397.heap _
  rw [e397]
  exact ⟨rfl, N394, rfl⟩
theorem pd_18 : parseMethodDescriptor "(I)I" = some ⟨[.int], some .int⟩ := by decide +kernel
theorem d3_73 : decode prog_56_method_2_code 73 = .ok (.iload_n 3, 1) := by decide +kernel
theorem d3_74 : decode prog_56_method_2_code 74 = .ok (.aload_n 0, 1) := by decide +kernel
theorem d3_75 : decode prog_56_method_2_code 75 = .ok (.getfield 11, 3) := by decide +kernel
theorem d3_78 : decode prog_56_method_2_code 78 = .ok (.iload_n 2, 1) := by decide +kernel
theorem d3_79 : decode prog_56_method_2_code 79 = .ok (.aaload, 1) := by decide +kernel
theorem d3_80 : decode prog_56_method_2_code 80 = .ok (.arraylength, 1) := by decide +kernel
theorem d3_81 : decode prog_56_method_2_code 81 = .ok (.if_icmp .ne 21, 3) := by decide +kernel
def Q_add3_1 (Z : State) (b407 : Addr) (p1 : Int32) (k51_413 : ClassId) (b51_413 : Addr) (b221_416 : Addr) (p0 : Int32) (k221_416 : ClassId) (h0 : Heap) (n0 : Nat) (v : Option Value) (h : Heap) (L : List Loc) : Prop := v = none ∧ Fr n0 L ∧ Keep h0 h [b407, b221_416] ∧ Old Z n0 h ∧ Exa Z h b407 "org/reachwatch/IntBlocks" ∧ Fld Z h b407 "org/reachwatch/IntBlocks" "blocks" "[[I" (.ref b51_413) ∧ Exa Z h b221_416 "[I" ∧ Arv Z h b221_416 k221_416 .int (16 : Int32) [(.int p0), (.int p1), (.int (0 : Int32)), (.int (0 : Int32)), (.int (0 : Int32)), (.int (0 : Int32)), (.int (0 : Int32)), (.int (0 : Int32)), (.int (0 : Int32)), (.int (0 : Int32)), (.int (0 : Int32)), (.int (0 : Int32)), (.int (0 : Int32)), (.int (0 : Int32)), (.int (0 : Int32)), (.int (0 : Int32))] (.int (0 : Int32)) ∧ Fld Z h b407 "org/reachwatch/IntBlocks" "size" "I" (.int (2 : Int32))
set_option maxRecDepth 65536 in
set_option maxHeartbeats 40000000 in
theorem rm_add3_1 (l : Launch) (Z : State) (a0 : Array Value) (hw : ∀ d ∈ tables_1, d.before a0 Z = true) (ws : List Jvm.Cond) (b407 : Addr) (p1 : Int32) (k51_413 : ClassId) (b51_413 : Addr) (b221_416 : Addr) (p0 : Int32) (k221_416 : ClassId) (h0 : Heap) (n0 : Nat) (O0 : Old Z n0 h0) (g_b407 : n0 ≤ b407) (g_b221_416 : n0 ≤ b221_416) (Fi0 : Exa Z h0 b407 "org/reachwatch/IntBlocks") (Fi1 : Fld Z h0 b407 "org/reachwatch/IntBlocks" "blocks" "[[I" (.ref b51_413)) (Fi2 : Exa Z h0 b221_416 "[I") (Fi3 : Arv Z h0 b51_413 k51_413 (.array .int) (1 : Int32) [(.ref b221_416)] .null) (Fi4 : Arv Z h0 b221_416 k221_416 .int (16 : Int32) [(.int p0), (.int (0 : Int32)), (.int (0 : Int32)), (.int (0 : Int32)), (.int (0 : Int32)), (.int (0 : Int32)), (.int (0 : Int32)), (.int (0 : Int32)), (.int (0 : Int32)), (.int (0 : Int32)), (.int (0 : Int32)), (.int (0 : Int32)), (.int (0 : Int32)), (.int (0 : Int32)), (.int (0 : Int32)), (.int (0 : Int32))] (.int (0 : Int32))) (Fi5 : Fld Z h0 b407 "org/reachwatch/IntBlocks" "size" "I" (.int (1 : Int32))) (q0 : ¬ (b51_413 = b407)) (q1 : ¬ (b221_416 = b407)) (q2 : ¬ (b221_416 = b51_413)) :
    MetFree l (⟨"org/reachwatch/IntBlocks", "add", "(I)V"⟩ : MethodName) (head1 (Jvm.Cond.code (⟨"org/reachwatch/IntBlocks", "add", "(I)V"⟩ : MethodName) prog_56_method_2_code 4 none :: ws) ({ frames := 0, cells := 0, slots := 0, locals := 0 } : Room)) (fun a U => a = #[(.ref b407), (.int p1)] ∧ Z.Warmed39 U.vm ∧ U.heap = h0) (fun _ _ _ _ _ => True) (fun _ U o U' => ∃ v L, o = .returned v ∧ Q_add3_1 Z b407 p1 k51_413 b51_413 b221_416 p0 k221_416 h0 n0 v U'.heap L ∧ FrameEnd U o U' L ({ frames := 0, cells := 0, slots := 0, locals := 0 } : Room).cells ({ frames := 0, cells := 0, slots := 0, locals := 0 } : Room).slots) := by
  refine MetFree.of_bodySF (plainFor_of_name pn_2) hisR ?_
  intro p e s m args below meth c s₁ Bd hml0 hP hK
  have W := fun {d : Jvm.Cond} (i : Nat) (q : tables_1[i]? = some d) => hw d (List.mem_of_getElem? q)
  obtain ⟨rfl, hZ, hh⟩ := hP
  have hx := Bd.exec
  have hby := Bd.bytes
  have hml : c.maxLocals = 4 := hml0
  have hown : s.vm.findClass "org/reachwatch/IntBlocks" = some m.cls := findClass_of_methodNamed Bd.named
  have hnm := (name_of_methodNamed Bd.named Bd.method).1
  have X0 : Stand p l e ({ frames := 0, cells := 0, slots := 0, locals := 0 } : Room) s m #[(.ref b407), (.int p1)] below meth c s₁ [] 0 0 := Stand.of_body Bd
  have e0 : s₁.heap = h0 := by rw [← hh, Bd.state]; rfl
  have N0 := Fr.nil n0
  have pre0 : ∀ t, Steps p.tables e below (s₁.setTop (mkF m 0 #[rv b407, iv p1, .unset, .unset] [])) t → Steps p.tables e below (s₁.setTop (entryFrame m #[(.ref b407), (.int p1)] 4)) t := fun t k => castTop (ef_5 m b407 p1) k
  have K0 : Keep h0 h0 [b407, b221_416] := Keep.refl h0 [b407, b221_416]
  have pre520 : ∀ t, Steps p.tables e below (s₁.setTop (mkF m 1 #[rv b407, iv p1, .unset, .unset] [(.ref b407)])) t → Steps p.tables e below (s₁.setTop (entryFrame m #[(.ref b407), (.int p1)] 4)) t := fun t kt => by
    refine pre0 _ ?_
    show Steps p.tables e below (s₁.setTop (mkF m 0 #[rv b407, iv p1, .unset, .unset] [])) _
    refine XS.aloadN X0.here hx rfl (hb hby d3_0) rfl rfl ?_
    exact kt
  obtain ⟨T521, X521, e521, st521⟩ := getF X0 hx hZ hown (host := "") (Or.inl (W 19 rfl)) Via.refl e0 Fi5 (g := (mkF m 1 #[rv b407, iv p1, .unset, .unset] [(.ref b407)])) rfl rfl (hb hby d3_1)
  have pre522 : ∀ t, Steps p.tables e below (T521.setTop (mkF m 4 #[rv b407, iv p1, .unset, .unset] [(.int (1 : Int32))])) t → Steps p.tables e below (s₁.setTop (entryFrame m #[(.ref b407), (.int p1)] 4)) t := fun t kt => pre520 _ (st521 _ kt)
  have pre523 : ∀ t, Steps p.tables e below (T521.setTop (mkF m 9 #[rv b407, iv p1, iv (0 : Int32), .unset] [(.ref b407)])) t → Steps p.tables e below (s₁.setTop (entryFrame m #[(.ref b407), (.int p1)] 4)) t := fun t kt => by
    refine pre522 _ ?_
    show Steps p.tables e below (T521.setTop (mkF m 4 #[rv b407, iv p1, .unset, .unset] [(.int (1 : Int32))])) _
    refine X521.ldcInt hx hown (mvT hZ (W 21 rfl)) (g := (mkF m 4 #[rv b407, iv p1, .unset, .unset] [(.int (1 : Int32))])) rfl (hb hby d3_4) _ ?_
    show Steps p.tables e below (T521.setTop (mkF m 6 #[rv b407, iv p1, .unset, .unset] [(.int (65536 : Int32)), (.int (1 : Int32))])) _
    refine XS.idiv X521.here hx rfl (hb hby d3_6) rfl (by decide) ?_
    show  Steps p.tables e below (T521.setTop (mkF m 7 #[rv b407, iv p1, .unset, .unset] [(.int ((1 : Int32) / (65536 : Int32)))])) _
    rw [(by decide : (((1 : Int32) / (65536 : Int32)) : Int32) = (0 : Int32))]
    show Steps p.tables e below (T521.setTop (mkF m 7 #[rv b407, iv p1, .unset, .unset] [(.int (0 : Int32))])) _
    refine XS.istoreN X521.here hx rfl (hb hby d3_7) rfl (l' := #[rv b407, iv p1, iv (0 : Int32), .unset]) rfl ?_
    show Steps p.tables e below (T521.setTop (mkF m 8 #[rv b407, iv p1, iv (0 : Int32), .unset] [])) _
    refine XS.aloadN X521.here hx rfl (hb hby d3_8) rfl rfl ?_
    exact kt
  obtain ⟨T524, X524, e524, st524⟩ := getF X521 hx hZ hown (host := "") (Or.inl (W 19 rfl)) Via.refl e521 Fi5 (g := (mkF m 9 #[rv b407, iv p1, iv (0 : Int32), .unset] [(.ref b407)])) rfl rfl (hb hby d3_9)
  have pre525 : ∀ t, Steps p.tables e below (T524.setTop (mkF m 12 #[rv b407, iv p1, iv (0 : Int32), .unset] [(.int (1 : Int32))])) t → Steps p.tables e below (s₁.setTop (entryFrame m #[(.ref b407), (.int p1)] 4)) t := fun t kt => pre523 _ (st524 _ kt)
  have pre526 : ∀ t, Steps p.tables e below (T524.setTop (mkF m 18 #[rv b407, iv p1, iv (0 : Int32), iv (1 : Int32)] [(.ref b407), (.int (0 : Int32))])) t → Steps p.tables e below (s₁.setTop (entryFrame m #[(.ref b407), (.int p1)] 4)) t := fun t kt => by
    refine pre525 _ ?_
    show Steps p.tables e below (T524.setTop (mkF m 12 #[rv b407, iv p1, iv (0 : Int32), .unset] [(.int (1 : Int32))])) _
    refine X524.ldcInt hx hown (mvT hZ (W 21 rfl)) (g := (mkF m 12 #[rv b407, iv p1, iv (0 : Int32), .unset] [(.int (1 : Int32))])) rfl (hb hby d3_12) _ ?_
    show Steps p.tables e below (T524.setTop (mkF m 14 #[rv b407, iv p1, iv (0 : Int32), .unset] [(.int (65536 : Int32)), (.int (1 : Int32))])) _
    refine XS.irem X524.here hx rfl (hb hby d3_14) rfl (by decide) ?_
    show  Steps p.tables e below (T524.setTop (mkF m 15 #[rv b407, iv p1, iv (0 : Int32), .unset] [(.int ((1 : Int32) - ((1 : Int32) / (65536 : Int32)) * (65536 : Int32)))])) _
    rw [(by decide : (((1 : Int32) - ((1 : Int32) / (65536 : Int32)) * (65536 : Int32)) : Int32) = (1 : Int32))]
    show Steps p.tables e below (T524.setTop (mkF m 15 #[rv b407, iv p1, iv (0 : Int32), .unset] [(.int (1 : Int32))])) _
    refine XS.istoreN X524.here hx rfl (hb hby d3_15) rfl (l' := #[rv b407, iv p1, iv (0 : Int32), iv (1 : Int32)]) rfl ?_
    show Steps p.tables e below (T524.setTop (mkF m 16 #[rv b407, iv p1, iv (0 : Int32), iv (1 : Int32)] [])) _
    refine XS.iloadN X524.here hx rfl (hb hby d3_16) rfl ?_
    show Steps p.tables e below (T524.setTop (mkF m 17 #[rv b407, iv p1, iv (0 : Int32), iv (1 : Int32)] [(.int (0 : Int32))])) _
    refine XS.aloadN X524.here hx rfl (hb hby d3_17) rfl rfl ?_
    exact kt
  obtain ⟨T527, X527, e527, st527⟩ := getF X524 hx hZ hown (host := "") (Or.inl (W 12 rfl)) Via.refl e524 Fi1 (g := (mkF m 18 #[rv b407, iv p1, iv (0 : Int32), iv (1 : Int32)] [(.ref b407), (.int (0 : Int32))])) rfl rfl (hb hby d3_18)
  have pre528 : ∀ t, Steps p.tables e below (T527.setTop (mkF m 21 #[rv b407, iv p1, iv (0 : Int32), iv (1 : Int32)] [(.ref b51_413), (.int (0 : Int32))])) t → Steps p.tables e below (s₁.setTop (entryFrame m #[(.ref b407), (.int p1)] 4)) t := fun t kt => pre526 _ (st527 _ kt)
  obtain ⟨c529, Ar529, -, S529, M529, -, -⟩ := id Fi3
  have pre530 : ∀ t, Steps p.tables e below (T527.setTop (mkF m 43 #[rv b407, iv p1, iv (0 : Int32), iv (1 : Int32)] [(.ref b407)])) t → Steps p.tables e below (s₁.setTop (entryFrame m #[(.ref b407), (.int p1)] 4)) t := fun t kt => by
    refine pre528 _ ?_
    show Steps p.tables e below (T527.setTop (mkF m 21 #[rv b407, iv p1, iv (0 : Int32), iv (1 : Int32)] [(.ref b51_413), (.int (0 : Int32))])) _
    refine X527.arraylength hx (by rw [e527]; exact Ar529.1) (State.isArrayOf_alike hZ.alike Ar529.2.1) (g := (mkF m 21 #[rv b407, iv p1, iv (0 : Int32), iv (1 : Int32)] [(.ref b51_413), (.int (0 : Int32))])) rfl rfl (hb hby d3_21) _ ?_
    rw [len_of S529 M529]
    show Steps p.tables e below (T527.setTop (mkF m 22 #[rv b407, iv p1, iv (0 : Int32), iv (1 : Int32)] [(.int (1 : Int32)), (.int (0 : Int32))])) _
    refine XS.icmpYes X527.here hx rfl (pc0 := 22) (pc' := 42) rfl (hb hby d3_22) rfl (XT.ii_ne_t (by decide)) (by decide) (by decide) ?_
    show Steps p.tables e below (T527.setTop (mkF m 42 #[rv b407, iv p1, iv (0 : Int32), iv (1 : Int32)] [])) _
    refine XS.aloadN X527.here hx rfl (hb hby d3_42) rfl rfl ?_
    exact kt
  obtain ⟨T531, X531, e531, st531⟩ := getF X527 hx hZ hown (host := "") (Or.inl (W 12 rfl)) Via.refl e527 Fi1 (g := (mkF m 43 #[rv b407, iv p1, iv (0 : Int32), iv (1 : Int32)] [(.ref b407)])) rfl rfl (hb hby d3_43)
  have pre532 : ∀ t, Steps p.tables e below (T531.setTop (mkF m 46 #[rv b407, iv p1, iv (0 : Int32), iv (1 : Int32)] [(.ref b51_413)])) t → Steps p.tables e below (s₁.setTop (entryFrame m #[(.ref b407), (.int p1)] 4)) t := fun t kt => pre530 _ (st531 _ kt)
  have pre534 : ∀ t, Steps p.tables e below (T531.setTop (mkF m 47 #[rv b407, iv p1, iv (0 : Int32), iv (1 : Int32)] [(.int (0 : Int32)), (.ref b51_413)])) t → Steps p.tables e below (s₁.setTop (entryFrame m #[(.ref b407), (.int p1)] 4)) t := fun t kt => by
    refine pre532 _ ?_
    show Steps p.tables e below (T531.setTop (mkF m 46 #[rv b407, iv p1, iv (0 : Int32), iv (1 : Int32)] [(.ref b51_413)])) _
    refine XS.iloadN X531.here hx rfl (hb hby d3_46) rfl ?_
    exact kt
  obtain ⟨c533, Ar533, q533, S533, M533, H533, G533⟩ := id Fi3
  have i533 : ¬ ((0 : Int32) < 0 ∨ c533.slots.size ≤ ((0 : Int32)).toNatClampNeg) := inb_of S533 ⟨by decide, by decide⟩
  have t533 : c533.slots[((0 : Int32)).toNatClampNeg]? = some (.ref b221_416) := Has.at H533 i533 rfl
  have pre535 : ∀ t, Steps p.tables e below (T531.setTop (mkF m 75 #[rv b407, iv p1, iv (0 : Int32), iv (1 : Int32)] [(.ref b407), (.int (1 : Int32))])) t → Steps p.tables e below (s₁.setTop (entryFrame m #[(.ref b407), (.int p1)] 4)) t := fun t kt => by
    refine pre534 _ ?_
    show Steps p.tables e below (T531.setTop (mkF m 47 #[rv b407, iv p1, iv (0 : Int32), iv (1 : Int32)] [(.int (0 : Int32)), (.ref b51_413)])) _
    refine X531.aaload hx (j := (0 : Int32)) (v := (.ref b221_416)) (by rw [e531]; exact Ar533.1) (State.isArrayOf_alike hZ.alike Ar533.2.1) rfl Ar533.2.2 i533 t533 (g := (mkF m 47 #[rv b407, iv p1, iv (0 : Int32), iv (1 : Int32)] [(.int (0 : Int32)), (.ref b51_413)])) rfl rfl (hb hby d3_47) _ ?_
    show Steps p.tables e below (T531.setTop (mkF m 48 #[rv b407, iv p1, iv (0 : Int32), iv (1 : Int32)] [(.ref b221_416)])) _
    refine XS.ifnonnullYes X531.here hx rfl (pc0 := 48) (pc' := 73) rfl (hb hby d3_48) rfl (by decide) (by decide) ?_
    show Steps p.tables e below (T531.setTop (mkF m 73 #[rv b407, iv p1, iv (0 : Int32), iv (1 : Int32)] [])) _
    refine XS.iloadN X531.here hx rfl (hb hby d3_73) rfl ?_
    show Steps p.tables e below (T531.setTop (mkF m 74 #[rv b407, iv p1, iv (0 : Int32), iv (1 : Int32)] [(.int (1 : Int32))])) _
    refine XS.aloadN X531.here hx rfl (hb hby d3_74) rfl rfl ?_
    exact kt
  obtain ⟨T536, X536, e536, st536⟩ := getF X531 hx hZ hown (host := "") (Or.inl (W 12 rfl)) Via.refl e531 Fi1 (g := (mkF m 75 #[rv b407, iv p1, iv (0 : Int32), iv (1 : Int32)] [(.ref b407), (.int (1 : Int32))])) rfl rfl (hb hby d3_75)
  have pre537 : ∀ t, Steps p.tables e below (T536.setTop (mkF m 78 #[rv b407, iv p1, iv (0 : Int32), iv (1 : Int32)] [(.ref b51_413), (.int (1 : Int32))])) t → Steps p.tables e below (s₁.setTop (entryFrame m #[(.ref b407), (.int p1)] 4)) t := fun t kt => pre535 _ (st536 _ kt)
  have pre539 : ∀ t, Steps p.tables e below (T536.setTop (mkF m 79 #[rv b407, iv p1, iv (0 : Int32), iv (1 : Int32)] [(.int (0 : Int32)), (.ref b51_413), (.int (1 : Int32))])) t → Steps p.tables e below (s₁.setTop (entryFrame m #[(.ref b407), (.int p1)] 4)) t := fun t kt => by
    refine pre537 _ ?_
    show Steps p.tables e below (T536.setTop (mkF m 78 #[rv b407, iv p1, iv (0 : Int32), iv (1 : Int32)] [(.ref b51_413), (.int (1 : Int32))])) _
    refine XS.iloadN X536.here hx rfl (hb hby d3_78) rfl ?_
    exact kt
  obtain ⟨c538, Ar538, q538, S538, M538, H538, G538⟩ := id Fi3
  have i538 : ¬ ((0 : Int32) < 0 ∨ c538.slots.size ≤ ((0 : Int32)).toNatClampNeg) := inb_of S538 ⟨by decide, by decide⟩
  have t538 : c538.slots[((0 : Int32)).toNatClampNeg]? = some (.ref b221_416) := Has.at H538 i538 rfl
  have pre541 : ∀ t, Steps p.tables e below (T536.setTop (mkF m 80 #[rv b407, iv p1, iv (0 : Int32), iv (1 : Int32)] [(.ref b221_416), (.int (1 : Int32))])) t → Steps p.tables e below (s₁.setTop (entryFrame m #[(.ref b407), (.int p1)] 4)) t := fun t kt => by
    refine pre539 _ ?_
    show Steps p.tables e below (T536.setTop (mkF m 79 #[rv b407, iv p1, iv (0 : Int32), iv (1 : Int32)] [(.int (0 : Int32)), (.ref b51_413), (.int (1 : Int32))])) _
    refine X536.aaload hx (j := (0 : Int32)) (v := (.ref b221_416)) (by rw [e536]; exact Ar538.1) (State.isArrayOf_alike hZ.alike Ar538.2.1) rfl Ar538.2.2 i538 t538 (g := (mkF m 79 #[rv b407, iv p1, iv (0 : Int32), iv (1 : Int32)] [(.int (0 : Int32)), (.ref b51_413), (.int (1 : Int32))])) rfl rfl (hb hby d3_79) _ ?_
    exact kt
  obtain ⟨c540, Ar540, -, S540, M540, -, -⟩ := id Fi4
  have pre542 : ∀ t, Steps p.tables e below (T536.setTop (mkF m 103 #[rv b407, iv p1, iv (0 : Int32), iv (1 : Int32)] [(.ref b407)])) t → Steps p.tables e below (s₁.setTop (entryFrame m #[(.ref b407), (.int p1)] 4)) t := fun t kt => by
    refine pre541 _ ?_
    show Steps p.tables e below (T536.setTop (mkF m 80 #[rv b407, iv p1, iv (0 : Int32), iv (1 : Int32)] [(.ref b221_416), (.int (1 : Int32))])) _
    refine X536.arraylength hx (by rw [e536]; exact Ar540.1) (State.isArrayOf_alike hZ.alike Ar540.2.1) (g := (mkF m 80 #[rv b407, iv p1, iv (0 : Int32), iv (1 : Int32)] [(.ref b221_416), (.int (1 : Int32))])) rfl rfl (hb hby d3_80) _ ?_
    rw [len_of S540 M540]
    show Steps p.tables e below (T536.setTop (mkF m 81 #[rv b407, iv p1, iv (0 : Int32), iv (1 : Int32)] [(.int (16 : Int32)), (.int (1 : Int32))])) _
    refine XS.icmpYes X536.here hx rfl (pc0 := 81) (pc' := 102) rfl (hb hby d3_81) rfl (XT.ii_ne_t (by decide)) (by decide) (by decide) ?_
    show Steps p.tables e below (T536.setTop (mkF m 102 #[rv b407, iv p1, iv (0 : Int32), iv (1 : Int32)] [])) _
    refine XS.aloadN X536.here hx rfl (hb hby d3_102) rfl rfl ?_
    exact kt
  obtain ⟨T543, X543, e543, st543⟩ := getF X536 hx hZ hown (host := "") (Or.inl (W 12 rfl)) Via.refl e536 Fi1 (g := (mkF m 103 #[rv b407, iv p1, iv (0 : Int32), iv (1 : Int32)] [(.ref b407)])) rfl rfl (hb hby d3_103)
  have pre544 : ∀ t, Steps p.tables e below (T543.setTop (mkF m 106 #[rv b407, iv p1, iv (0 : Int32), iv (1 : Int32)] [(.ref b51_413)])) t → Steps p.tables e below (s₁.setTop (entryFrame m #[(.ref b407), (.int p1)] 4)) t := fun t kt => pre542 _ (st543 _ kt)
  have pre546 : ∀ t, Steps p.tables e below (T543.setTop (mkF m 107 #[rv b407, iv p1, iv (0 : Int32), iv (1 : Int32)] [(.int (0 : Int32)), (.ref b51_413)])) t → Steps p.tables e below (s₁.setTop (entryFrame m #[(.ref b407), (.int p1)] 4)) t := fun t kt => by
    refine pre544 _ ?_
    show Steps p.tables e below (T543.setTop (mkF m 106 #[rv b407, iv p1, iv (0 : Int32), iv (1 : Int32)] [(.ref b51_413)])) _
    refine XS.iloadN X543.here hx rfl (hb hby d3_106) rfl ?_
    exact kt
  obtain ⟨c545, Ar545, q545, S545, M545, H545, G545⟩ := id Fi3
  have i545 : ¬ ((0 : Int32) < 0 ∨ c545.slots.size ≤ ((0 : Int32)).toNatClampNeg) := inb_of S545 ⟨by decide, by decide⟩
  have t545 : c545.slots[((0 : Int32)).toNatClampNeg]? = some (.ref b221_416) := Has.at H545 i545 rfl
  have pre547 : ∀ t, Steps p.tables e below (T543.setTop (mkF m 110 #[rv b407, iv p1, iv (0 : Int32), iv (1 : Int32)] [(.int p1), (.int (1 : Int32)), (.ref b221_416)])) t → Steps p.tables e below (s₁.setTop (entryFrame m #[(.ref b407), (.int p1)] 4)) t := fun t kt => by
    refine pre546 _ ?_
    show Steps p.tables e below (T543.setTop (mkF m 107 #[rv b407, iv p1, iv (0 : Int32), iv (1 : Int32)] [(.int (0 : Int32)), (.ref b51_413)])) _
    refine X543.aaload hx (j := (0 : Int32)) (v := (.ref b221_416)) (by rw [e543]; exact Ar545.1) (State.isArrayOf_alike hZ.alike Ar545.2.1) rfl Ar545.2.2 i545 t545 (g := (mkF m 107 #[rv b407, iv p1, iv (0 : Int32), iv (1 : Int32)] [(.int (0 : Int32)), (.ref b51_413)])) rfl rfl (hb hby d3_107) _ ?_
    show Steps p.tables e below (T543.setTop (mkF m 108 #[rv b407, iv p1, iv (0 : Int32), iv (1 : Int32)] [(.ref b221_416)])) _
    refine XS.iloadN X543.here hx rfl (hb hby d3_108) rfl ?_
    show Steps p.tables e below (T543.setTop (mkF m 109 #[rv b407, iv p1, iv (0 : Int32), iv (1 : Int32)] [(.int (1 : Int32)), (.ref b221_416)])) _
    refine XS.iloadN X543.here hx rfl (hb hby d3_109) rfl ?_
    exact kt
  obtain ⟨c548, Ar548, q548, S548, M548, H548, G548⟩ := id Fi4
  have i548 : ¬ ((1 : Int32) < 0 ∨ c548.slots.size ≤ ((1 : Int32)).toNatClampNeg) := inb_of S548 ⟨by decide, by decide⟩
  obtain ⟨T549, h549, X549, e549, W549, st549⟩ := stI X543 hx hZ e543 Ar548 (j := (1 : Int32)) i548 (g := (mkF m 110 #[rv b407, iv p1, iv (0 : Int32), iv (1 : Int32)] [(.int p1), (.int (1 : Int32)), (.ref b221_416)])) rfl rfl (hb hby d3_110)
  have pre550 : ∀ t, Steps p.tables e below (T549.setTop (mkF m 111 #[rv b407, iv p1, iv (0 : Int32), iv (1 : Int32)] [])) t → Steps p.tables e below (s₁.setTop (entryFrame m #[(.ref b407), (.int p1)] 4)) t := fun t kt => pre547 _ (st549 _ kt)
  have N549 := Fr.snoc X549 N0 g_b221_416
  have O549 := O0.wr W549 g_b221_416
  have K549 : Keep h0 h549 [b407, b221_416] := K0.wr W549 (Or.inl (List.mem_of_getElem? (i := 1) rfl))
  have F551 := Fi0.wr W549
  have F552 := Fi1.other W549 (Or.inl (fun q => q1 q.symm))
  have F553 := Fi2.wr W549
  have F554 := Fi3.other W549 (fun q => q2 q.symm)
  have F555 := Fi5.other W549 (Or.inl (fun q => q1 q.symm))
  have F556 : Arv Z h549 b221_416 k221_416 .int (16 : Int32) [(.int p0), (.int p1), (.int (0 : Int32)), (.int (0 : Int32)), (.int (0 : Int32)), (.int (0 : Int32)), (.int (0 : Int32)), (.int (0 : Int32)), (.int (0 : Int32)), (.int (0 : Int32)), (.int (0 : Int32)), (.int (0 : Int32)), (.int (0 : Int32)), (.int (0 : Int32)), (.int (0 : Int32)), (.int (0 : Int32))] (.int (0 : Int32)) := Arv.set Ar548 q548 S548 M548 H548 G548 rfl W549 1 rfl (Nat.le_of_ble_eq_true rfl)
  have pre557 : ∀ t, Steps p.tables e below (T549.setTop (mkF m 113 #[rv b407, iv p1, iv (0 : Int32), iv (1 : Int32)] [(.ref b407), (.ref b407)])) t → Steps p.tables e below (s₁.setTop (entryFrame m #[(.ref b407), (.int p1)] 4)) t := fun t kt => by
    refine pre550 _ ?_
    show Steps p.tables e below (T549.setTop (mkF m 111 #[rv b407, iv p1, iv (0 : Int32), iv (1 : Int32)] [])) _
    refine XS.aloadN X549.here hx rfl (hb hby d3_111) rfl rfl ?_
    show Steps p.tables e below (T549.setTop (mkF m 112 #[rv b407, iv p1, iv (0 : Int32), iv (1 : Int32)] [(.ref b407)])) _
    refine XS.dup X549.here hx rfl (hb hby d3_112) rfl rfl ?_
    exact kt
  obtain ⟨T558, X558, e558, st558⟩ := getF X549 hx hZ hown (host := "") (Or.inl (W 19 rfl)) Via.refl e549 F555 (g := (mkF m 113 #[rv b407, iv p1, iv (0 : Int32), iv (1 : Int32)] [(.ref b407), (.ref b407)])) rfl rfl (hb hby d3_113)
  have pre559 : ∀ t, Steps p.tables e below (T558.setTop (mkF m 116 #[rv b407, iv p1, iv (0 : Int32), iv (1 : Int32)] [(.int (1 : Int32)), (.ref b407)])) t → Steps p.tables e below (s₁.setTop (entryFrame m #[(.ref b407), (.int p1)] 4)) t := fun t kt => pre557 _ (st558 _ kt)
  have pre560 : ∀ t, Steps p.tables e below (T558.setTop (mkF m 118 #[rv b407, iv p1, iv (0 : Int32), iv (1 : Int32)] [(.int (2 : Int32)), (.ref b407)])) t → Steps p.tables e below (s₁.setTop (entryFrame m #[(.ref b407), (.int p1)] 4)) t := fun t kt => by
    refine pre559 _ ?_
    show Steps p.tables e below (T558.setTop (mkF m 116 #[rv b407, iv p1, iv (0 : Int32), iv (1 : Int32)] [(.int (1 : Int32)), (.ref b407)])) _
    refine XS.iconst X558.here hx rfl (hb hby d3_116) ?_
    show Steps p.tables e below (T558.setTop (mkF m 117 #[rv b407, iv p1, iv (0 : Int32), iv (1 : Int32)] [(.int (1 : Int32)), (.int (1 : Int32)), (.ref b407)])) _
    refine XS.iadd X558.here hx rfl (hb hby d3_117) rfl ?_
    show  Steps p.tables e below (T558.setTop (mkF m 118 #[rv b407, iv p1, iv (0 : Int32), iv (1 : Int32)] [(.int ((1 : Int32) + (1 : Int32))), (.ref b407)])) _
    rw [(by decide : (((1 : Int32) + (1 : Int32)) : Int32) = (2 : Int32))]
    exact kt
  obtain ⟨T561, h561, X561, e561, W561, st561⟩ := putF X558 hx hZ hown (host := "") (Or.inl (W 19 rfl)) Via.refl e558 F555 F551 (Or.inl (W 20 rfl)) (W 2 rfl) (ty := .int) (by decide) rfl rfl (g := (mkF m 118 #[rv b407, iv p1, iv (0 : Int32), iv (1 : Int32)] [(.int (2 : Int32)), (.ref b407)])) rfl rfl (hb hby d3_118)
  have pre562 : ∀ t, Steps p.tables e below (T561.setTop (mkF m 121 #[rv b407, iv p1, iv (0 : Int32), iv (1 : Int32)] [])) t → Steps p.tables e below (s₁.setTop (entryFrame m #[(.ref b407), (.int p1)] 4)) t := fun t kt => pre560 _ (st561 _ kt)
  have N561 := Fr.snoc X561 N549 g_b407
  have O561 := O549.wr W561 g_b407
  have K561 : Keep h0 h561 [b407, b221_416] := K549.wr W561 (Or.inl (List.mem_of_getElem? (i := 0) rfl))
  have F563 := F551.wr W561
  have F564 := F552.other W561 (Or.inr (slot_ne (Or.inl (W 13 rfl)) (Or.inl (W 20 rfl)) (by decide) (t := (.array (.array .int))) (t' := .int) (by decide) (by decide)))
  have F565 := F553.wr W561
  have F566 := F554.other W561 q0
  have F567 := F556.other W561 q1
  have F568 : Fld Z h561 b407 "org/reachwatch/IntBlocks" "size" "I" (.int (2 : Int32)) := F555.same W561
  obtain ⟨fs, hr, hrun, hended, hW, hsame⟩ := X561.leave (v := none) (fun _ => rfl)
  refine ⟨_, _, pre562 _ (X561.returnOut hx Bd.returns (hb hby d3_121) hr), hrun, hended, _, _, rfl, ?_, ⟨_, rfl⟩, hW, hsame.mono (by decide) (by decide)⟩
  show Q_add3_1 Z b407 p1 k51_413 b51_413 b221_416 p0 k221_416 h0 n0 _ T561.heap _
  rw [e561]
  exact ⟨rfl, N561, K561, O561, F563, F564, F565, F567, F568⟩
def Q_checkIndex6_1 (Z : State)  (h0 : Heap) (n0 : Nat) (v : Option Value) (h : Heap) (L : List Loc) : Prop := v = some (.int (0 : Int32)) ∧ Fr n0 L ∧ h = h0
set_option maxRecDepth 65536 in
set_option maxHeartbeats 40000000 in
theorem rm_checkIndex6_1 (l : Launch) (Z : State) (a0 : Array Value) (hw : ∀ d ∈ tables_1, d.before a0 Z = true) (ws : List Jvm.Cond)  (h0 : Heap) (n0 : Nat) (O0 : Old Z n0 h0) :
    MetFree l (⟨"jdk/internal/util/Preconditions", "checkIndex", "(IILjava/util/function/BiFunction;)I"⟩ : MethodName) (head1 (Jvm.Cond.code (⟨"jdk/internal/util/Preconditions", "checkIndex", "(IILjava/util/function/BiFunction;)I"⟩ : MethodName) jdk_41_method_11_code 3 (some .int) :: ws) ({ frames := 0, cells := 0, slots := 0, locals := 0 } : Room)) (fun a U => a = #[(.int (0 : Int32)), (.int (2 : Int32)), .null] ∧ Z.Warmed39 U.vm ∧ U.heap = h0) (fun _ _ _ _ _ => True) (fun _ U o U' => ∃ v L, o = .returned v ∧ Q_checkIndex6_1 Z  h0 n0 v U'.heap L ∧ FrameEnd U o U' L ({ frames := 0, cells := 0, slots := 0, locals := 0 } : Room).cells ({ frames := 0, cells := 0, slots := 0, locals := 0 } : Room).slots) := by
  refine MetFree.of_bodySF (plainFor_of_name pn_7) hisR ?_
  intro p e s m args below meth c s₁ Bd hml0 hP hK
  have W := fun {d : Jvm.Cond} (i : Nat) (q : tables_1[i]? = some d) => hw d (List.mem_of_getElem? q)
  obtain ⟨rfl, hZ, hh⟩ := hP
  have hx := Bd.exec
  have hby := Bd.bytes
  have hml : c.maxLocals = 3 := hml0
  have hown : s.vm.findClass "jdk/internal/util/Preconditions" = some m.cls := findClass_of_methodNamed Bd.named
  have hnm := (name_of_methodNamed Bd.named Bd.method).1
  have X0 : Stand p l e ({ frames := 0, cells := 0, slots := 0, locals := 0 } : Room) s m #[(.int (0 : Int32)), (.int (2 : Int32)), .null] below meth c s₁ [] 0 0 := Stand.of_body Bd
  have e0 : s₁.heap = h0 := by rw [← hh, Bd.state]; rfl
  have N0 := Fr.nil n0
  have pre0 : ∀ t, Steps p.tables e below (s₁.setTop (mkF m 0 #[iv (0 : Int32), iv (2 : Int32), .val .null] [])) t → Steps p.tables e below (s₁.setTop (entryFrame m #[(.int (0 : Int32)), (.int (2 : Int32)), .null] 3)) t := fun t k => castTop (ef_8 m (0 : Int32) (2 : Int32)) k
  have K0 : Keep h0 h0 [] := Keep.refl h0 []
  have pre584 : ∀ t, Steps p.tables e below (s₁.setTop (mkF m 17 #[iv (0 : Int32), iv (2 : Int32), .val .null] [(.int (0 : Int32))])) t → Steps p.tables e below (s₁.setTop (entryFrame m #[(.int (0 : Int32)), (.int (2 : Int32)), .null] 3)) t := fun t kt => by
    refine pre0 _ ?_
    show Steps p.tables e below (s₁.setTop (mkF m 0 #[iv (0 : Int32), iv (2 : Int32), .val .null] [])) _
    refine XS.iloadN X0.here hx rfl (hb hby d6_0) rfl ?_
    show Steps p.tables e below (s₁.setTop (mkF m 1 #[iv (0 : Int32), iv (2 : Int32), .val .null] [(.int (0 : Int32))])) _
    refine XS.ifNo X0.here hx rfl (hb hby d6_1) rfl (XT.i0_lt_f (by decide)) ?_
    show Steps p.tables e below (s₁.setTop (mkF m 4 #[iv (0 : Int32), iv (2 : Int32), .val .null] [])) _
    refine XS.iloadN X0.here hx rfl (hb hby d6_4) rfl ?_
    show Steps p.tables e below (s₁.setTop (mkF m 5 #[iv (0 : Int32), iv (2 : Int32), .val .null] [(.int (0 : Int32))])) _
    refine XS.iloadN X0.here hx rfl (hb hby d6_5) rfl ?_
    show Steps p.tables e below (s₁.setTop (mkF m 6 #[iv (0 : Int32), iv (2 : Int32), .val .null] [(.int (2 : Int32)), (.int (0 : Int32))])) _
    refine XS.icmpYes X0.here hx rfl (pc0 := 6) (pc' := 16) rfl (hb hby d6_6) rfl (XT.ii_lt_t (by decide)) (by decide) (by decide) ?_
    show Steps p.tables e below (s₁.setTop (mkF m 16 #[iv (0 : Int32), iv (2 : Int32), .val .null] [])) _
    refine XS.iloadN X0.here hx rfl (hb hby d6_16) rfl ?_
    exact kt
  obtain ⟨fs, hr, hrun, hended, hW, hsame⟩ := X0.leave (v := some (.int (0 : Int32))) (fun h => by rw [Bd.returns] at h; cases h)
  refine ⟨_, _, pre584 _ (retI X0 hx Bd.returns (hb hby d6_17) hr), hrun, hended, _, _, rfl, ?_, ⟨_, rfl⟩, hW, hsame.mono (by decide) (by decide)⟩
  show Q_checkIndex6_1 Z  h0 n0 _ s₁.heap _
  rw [e0]
  exact ⟨rfl, N0, rfl⟩
def Q_checkIndex5_1 (Z : State)  (h0 : Heap) (n0 : Nat) (v : Option Value) (h : Heap) (L : List Loc) : Prop := v = some (.int (0 : Int32)) ∧ Fr n0 L ∧ h = h0
set_option maxRecDepth 65536 in
set_option maxHeartbeats 40000000 in
theorem rm_checkIndex5_1 (l : Launch) (Z : State) (a0 : Array Value) (hw : ∀ d ∈ tables_1, d.before a0 Z = true) (ws : List Jvm.Cond)  (h0 : Heap) (n0 : Nat) (O0 : Old Z n0 h0) :
    MetFree l (⟨"java/util/Objects", "checkIndex", "(II)I"⟩ : MethodName) (head1 (Jvm.Cond.code (⟨"java/util/Objects", "checkIndex", "(II)I"⟩ : MethodName) jdk_31_method_17_code 2 (some .int) :: ws) ({ frames := 1, cells := 0, slots := 0, locals := 14 } : Room)) (fun a U => a = #[(.int (0 : Int32)), (.int (2 : Int32))] ∧ Z.Warmed39 U.vm ∧ U.heap = h0) (fun _ _ _ _ _ => True) (fun _ U o U' => ∃ v L, o = .returned v ∧ Q_checkIndex5_1 Z  h0 n0 v U'.heap L ∧ FrameEnd U o U' L ({ frames := 1, cells := 0, slots := 0, locals := 14 } : Room).cells ({ frames := 1, cells := 0, slots := 0, locals := 14 } : Room).slots) := by
  refine MetFree.of_bodySF (plainFor_of_name pn_10) hisR ?_
  intro p e s m args below meth c s₁ Bd hml0 hP hK
  have W := fun {d : Jvm.Cond} (i : Nat) (q : tables_1[i]? = some d) => hw d (List.mem_of_getElem? q)
  obtain ⟨rfl, hZ, hh⟩ := hP
  have hx := Bd.exec
  have hby := Bd.bytes
  have hml : c.maxLocals = 2 := hml0
  have hown : s.vm.findClass "java/util/Objects" = some m.cls := findClass_of_methodNamed Bd.named
  have hnm := (name_of_methodNamed Bd.named Bd.method).1
  have X0 : Stand p l e ({ frames := 1, cells := 0, slots := 0, locals := 14 } : Room) s m #[(.int (0 : Int32)), (.int (2 : Int32))] below meth c s₁ [] 0 0 := Stand.of_body Bd
  have e0 : s₁.heap = h0 := by rw [← hh, Bd.state]; rfl
  have N0 := Fr.nil n0
  have pre0 : ∀ t, Steps p.tables e below (s₁.setTop (mkF m 0 #[iv (0 : Int32), iv (2 : Int32)] [])) t → Steps p.tables e below (s₁.setTop (entryFrame m #[(.int (0 : Int32)), (.int (2 : Int32))] 2)) t := fun t k => castTop (ef_11 m (0 : Int32) (2 : Int32)) k
  have K0 : Keep h0 h0 [] := Keep.refl h0 []
  have pre589 : ∀ t, Steps p.tables e below (s₁.setTop (mkF m 3 #[iv (0 : Int32), iv (2 : Int32)] [.null, (.int (2 : Int32)), (.int (0 : Int32))])) t → Steps p.tables e below (s₁.setTop (entryFrame m #[(.int (0 : Int32)), (.int (2 : Int32))] 2)) t := fun t kt => by
    refine pre0 _ ?_
    show Steps p.tables e below (s₁.setTop (mkF m 0 #[iv (0 : Int32), iv (2 : Int32)] [])) _
    refine XS.iloadN X0.here hx rfl (hb hby d5_0) rfl ?_
    show Steps p.tables e below (s₁.setTop (mkF m 1 #[iv (0 : Int32), iv (2 : Int32)] [(.int (0 : Int32))])) _
    refine XS.iloadN X0.here hx rfl (hb hby d5_1) rfl ?_
    show Steps p.tables e below (s₁.setTop (mkF m 2 #[iv (0 : Int32), iv (2 : Int32)] [(.int (2 : Int32)), (.int (0 : Int32))])) _
    refine XS.aconstNull X0.here hx rfl (hb hby d5_2) ?_
    exact kt
  obtain ⟨_, _, ⟨T590, L590, k590, n590⟩, -, X590, ⟨Lc590, hQ590, l590, y590, z590⟩, st590⟩ := Jvm.LawKit.callS X0 hx (y := (⟨"jdk/internal/util/Preconditions", "checkIndex", "(IILjava/util/function/BiFunction;)I"⟩ : MethodName)) hown (mvT hZ (W 33 rfl)) (mvT hZ (W 34 rfl)) (mvT hZ (W 35 rfl)) (mvT hZ (W 36 rfl)) (by decide) (backOf (W := 0) (rm_checkIndex6_1 l Z a0 hw [] h0 n0 O0) hZ (W 36 rfl) (W 35 rfl) (by decide) (by decide)) (g := (mkF m 3 #[iv (0 : Int32), iv (2 : Int32)] [.null, (.int (2 : Int32)), (.int (0 : Int32))])) rfl (by rw [hml]; rfl) (argsL := [(.int (0 : Int32)), (.int (2 : Int32)), .null]) (rest := []) (lenOf pd_9 rfl) rfl (by show 2 * 0 + _ ≤ _; exact Nat.le_of_eq rfl) (hb hby d5_3) (fun _ _ => ⟨rfl, e0, (by decide : 0 + 0 ≤ _), (by decide : 0 + 0 ≤ _)⟩)
  dsimp only [Pt.U, Pt.locs, Pt.cells, Pt.slots] at X590 l590 y590 z590 st590 hQ590
  replace l590 := l590.symm
  replace y590 : 0 = k590 := y590.symm
  replace z590 : 0 = n590 := z590.symm
  subst l590 y590 z590
  obtain ⟨rfl, M590, e590⟩ := hQ590
  have N590 := Fr.app N0 M590
  have pre591 : ∀ t, Steps p.tables e below (T590.setTop (mkF m 6 #[iv (0 : Int32), iv (2 : Int32)] [(.int (0 : Int32))])) t → Steps p.tables e below (s₁.setTop (entryFrame m #[(.int (0 : Int32)), (.int (2 : Int32))] 2)) t := fun t kt => pre589 _ (st590 _ kt)
  obtain ⟨fs, hr, hrun, hended, hW, hsame⟩ := X590.leave (v := some (.int (0 : Int32))) (fun h => by rw [Bd.returns] at h; cases h)
  refine ⟨_, _, pre591 _ (retI X590 hx Bd.returns (hb hby d5_6) hr), hrun, hended, _, _, rfl, ?_, ⟨_, rfl⟩, hW, hsame.mono (by decide) (by decide)⟩
  show Q_checkIndex5_1 Z  h0 n0 _ T590.heap _
  rw [e590]
  exact ⟨rfl, N590, rfl⟩
def Q_set4_1 (Z : State) (b407 : Addr) (p5 : Int32) (k51_413 : ClassId) (b51_413 : Addr) (b221_416 : Addr) (p0 : Int32) (p1 : Int32) (k221_416 : ClassId) (h0 : Heap) (n0 : Nat) (v : Option Value) (h : Heap) (L : List Loc) : Prop := v = none ∧ Fr n0 L ∧ Keep h0 h [b221_416] ∧ Old Z n0 h ∧ Exa Z h b221_416 "[I" ∧ Arv Z h b221_416 k221_416 .int (16 : Int32) [(.int p5), (.int p1), (.int (0 : Int32)), (.int (0 : Int32)), (.int (0 : Int32)), (.int (0 : Int32)), (.int (0 : Int32)), (.int (0 : Int32)), (.int (0 : Int32)), (.int (0 : Int32)), (.int (0 : Int32)), (.int (0 : Int32)), (.int (0 : Int32)), (.int (0 : Int32)), (.int (0 : Int32)), (.int (0 : Int32))] (.int (0 : Int32))
set_option maxRecDepth 65536 in
set_option maxHeartbeats 40000000 in
theorem rm_set4_1 (l : Launch) (Z : State) (a0 : Array Value) (hw : ∀ d ∈ tables_1, d.before a0 Z = true) (ws : List Jvm.Cond) (b407 : Addr) (p5 : Int32) (k51_413 : ClassId) (b51_413 : Addr) (b221_416 : Addr) (p0 : Int32) (p1 : Int32) (k221_416 : ClassId) (h0 : Heap) (n0 : Nat) (O0 : Old Z n0 h0) (g_b221_416 : n0 ≤ b221_416) (Fi0 : Arv Z h0 b51_413 k51_413 (.array .int) (1 : Int32) [(.ref b221_416)] .null) (Fi1 : Fld Z h0 b407 "org/reachwatch/IntBlocks" "blocks" "[[I" (.ref b51_413)) (Fi2 : Exa Z h0 b221_416 "[I") (Fi3 : Arv Z h0 b221_416 k221_416 .int (16 : Int32) [(.int p0), (.int p1), (.int (0 : Int32)), (.int (0 : Int32)), (.int (0 : Int32)), (.int (0 : Int32)), (.int (0 : Int32)), (.int (0 : Int32)), (.int (0 : Int32)), (.int (0 : Int32)), (.int (0 : Int32)), (.int (0 : Int32)), (.int (0 : Int32)), (.int (0 : Int32)), (.int (0 : Int32)), (.int (0 : Int32))] (.int (0 : Int32))) (Fi4 : Fld Z h0 b407 "org/reachwatch/IntBlocks" "size" "I" (.int (2 : Int32))) (q0 : ¬ (b221_416 = b407)) (q1 : ¬ (b221_416 = b51_413)) :
    MetFree l (⟨"org/reachwatch/IntBlocks", "set", "(II)V"⟩ : MethodName) (head1 (Jvm.Cond.code (⟨"org/reachwatch/IntBlocks", "set", "(II)V"⟩ : MethodName) prog_56_method_4_code 3 none :: ws) ({ frames := 2, cells := 0, slots := 0, locals := 27 } : Room)) (fun a U => a = #[(.ref b407), (.int (0 : Int32)), (.int p5)] ∧ Z.Warmed39 U.vm ∧ U.heap = h0) (fun _ _ _ _ _ => True) (fun _ U o U' => ∃ v L, o = .returned v ∧ Q_set4_1 Z b407 p5 k51_413 b51_413 b221_416 p0 p1 k221_416 h0 n0 v U'.heap L ∧ FrameEnd U o U' L ({ frames := 2, cells := 0, slots := 0, locals := 27 } : Room).cells ({ frames := 2, cells := 0, slots := 0, locals := 27 } : Room).slots) := by
  refine MetFree.of_bodySF (plainFor_of_name pn_2) hisR ?_
  intro p e s m args below meth c s₁ Bd hml0 hP hK
  have W := fun {d : Jvm.Cond} (i : Nat) (q : tables_1[i]? = some d) => hw d (List.mem_of_getElem? q)
  obtain ⟨rfl, hZ, hh⟩ := hP
  have hx := Bd.exec
  have hby := Bd.bytes
  have hml : c.maxLocals = 3 := hml0
  have hown : s.vm.findClass "org/reachwatch/IntBlocks" = some m.cls := findClass_of_methodNamed Bd.named
  have hnm := (name_of_methodNamed Bd.named Bd.method).1
  have X0 : Stand p l e ({ frames := 2, cells := 0, slots := 0, locals := 27 } : Room) s m #[(.ref b407), (.int (0 : Int32)), (.int p5)] below meth c s₁ [] 0 0 := Stand.of_body Bd
  have e0 : s₁.heap = h0 := by rw [← hh, Bd.state]; rfl
  have N0 := Fr.nil n0
  have pre0 : ∀ t, Steps p.tables e below (s₁.setTop (mkF m 0 #[rv b407, iv (0 : Int32), iv p5] [])) t → Steps p.tables e below (s₁.setTop (entryFrame m #[(.ref b407), (.int (0 : Int32)), (.int p5)] 3)) t := fun t k => castTop (ef_13 m b407 (0 : Int32) p5) k
  have K0 : Keep h0 h0 [b221_416] := Keep.refl h0 [b221_416]
  have pre628 : ∀ t, Steps p.tables e below (s₁.setTop (mkF m 2 #[rv b407, iv (0 : Int32), iv p5] [(.ref b407), (.int (0 : Int32))])) t → Steps p.tables e below (s₁.setTop (entryFrame m #[(.ref b407), (.int (0 : Int32)), (.int p5)] 3)) t := fun t kt => by
    refine pre0 _ ?_
    show Steps p.tables e below (s₁.setTop (mkF m 0 #[rv b407, iv (0 : Int32), iv p5] [])) _
    refine XS.iloadN X0.here hx rfl (hb hby d4_0) rfl ?_
    show Steps p.tables e below (s₁.setTop (mkF m 1 #[rv b407, iv (0 : Int32), iv p5] [(.int (0 : Int32))])) _
    refine XS.aloadN X0.here hx rfl (hb hby d4_1) rfl rfl ?_
    exact kt
  obtain ⟨T629, X629, e629, st629⟩ := getF X0 hx hZ hown (host := "") (Or.inl (W 19 rfl)) Via.refl e0 Fi4 (g := (mkF m 2 #[rv b407, iv (0 : Int32), iv p5] [(.ref b407), (.int (0 : Int32))])) rfl rfl (hb hby d4_2)
  have pre630 : ∀ t, Steps p.tables e below (T629.setTop (mkF m 5 #[rv b407, iv (0 : Int32), iv p5] [(.int (2 : Int32)), (.int (0 : Int32))])) t → Steps p.tables e below (s₁.setTop (entryFrame m #[(.ref b407), (.int (0 : Int32)), (.int p5)] 3)) t := fun t kt => pre628 _ (st629 _ kt)
  obtain ⟨_, _, ⟨T631, L631, k631, n631⟩, -, X631, ⟨Lc631, hQ631, l631, y631, z631⟩, st631⟩ := Jvm.LawKit.callS X629 hx (y := (⟨"java/util/Objects", "checkIndex", "(II)I"⟩ : MethodName)) hown (mvT hZ (W 29 rfl)) (mvT hZ (W 30 rfl)) (mvT hZ (W 31 rfl)) (mvT hZ (W 32 rfl)) (by decide) (backOf (W := 0) (rm_checkIndex5_1 l Z a0 hw [] h0 n0 O0) hZ (W 32 rfl) (W 31 rfl) (by decide) (by decide)) (g := (mkF m 5 #[rv b407, iv (0 : Int32), iv p5] [(.int (2 : Int32)), (.int (0 : Int32))])) rfl (by rw [hml]; rfl) (argsL := [(.int (0 : Int32)), (.int (2 : Int32))]) (rest := []) (lenOf pd_12 rfl) rfl (by show 2 * 0 + _ ≤ _; exact Nat.le_of_eq rfl) (hb hby d4_5) (fun _ _ => ⟨rfl, e629, (by decide : 0 + 0 ≤ _), (by decide : 0 + 0 ≤ _)⟩)
  dsimp only [Pt.U, Pt.locs, Pt.cells, Pt.slots] at X631 l631 y631 z631 st631 hQ631
  replace l631 := l631.symm
  replace y631 : 0 = k631 := y631.symm
  replace z631 : 0 = n631 := z631.symm
  subst l631 y631 z631
  obtain ⟨rfl, M631, e631⟩ := hQ631
  have N631 := Fr.app N0 M631
  have pre632 : ∀ t, Steps p.tables e below (T631.setTop (mkF m 8 #[rv b407, iv (0 : Int32), iv p5] [(.int (0 : Int32))])) t → Steps p.tables e below (s₁.setTop (entryFrame m #[(.ref b407), (.int (0 : Int32)), (.int p5)] 3)) t := fun t kt => pre630 _ (st631 _ kt)
  have pre633 : ∀ t, Steps p.tables e below (T631.setTop (mkF m 10 #[rv b407, iv (0 : Int32), iv p5] [(.ref b407)])) t → Steps p.tables e below (s₁.setTop (entryFrame m #[(.ref b407), (.int (0 : Int32)), (.int p5)] 3)) t := fun t kt => by
    refine pre632 _ ?_
    show Steps p.tables e below (T631.setTop (mkF m 8 #[rv b407, iv (0 : Int32), iv p5] [(.int (0 : Int32))])) _
    refine XS.pop X631.here hx rfl (hb hby d4_8) rfl rfl ?_
    show Steps p.tables e below (T631.setTop (mkF m 9 #[rv b407, iv (0 : Int32), iv p5] [])) _
    refine XS.aloadN X631.here hx rfl (hb hby d4_9) rfl rfl ?_
    exact kt
  obtain ⟨T634, X634, e634, st634⟩ := getF X631 hx hZ hown (host := "") (Or.inl (W 12 rfl)) Via.refl e631 Fi1 (g := (mkF m 10 #[rv b407, iv (0 : Int32), iv p5] [(.ref b407)])) rfl rfl (hb hby d4_10)
  have pre635 : ∀ t, Steps p.tables e below (T634.setTop (mkF m 13 #[rv b407, iv (0 : Int32), iv p5] [(.ref b51_413)])) t → Steps p.tables e below (s₁.setTop (entryFrame m #[(.ref b407), (.int (0 : Int32)), (.int p5)] 3)) t := fun t kt => pre633 _ (st634 _ kt)
  have pre637 : ∀ t, Steps p.tables e below (T634.setTop (mkF m 17 #[rv b407, iv (0 : Int32), iv p5] [(.int (0 : Int32)), (.ref b51_413)])) t → Steps p.tables e below (s₁.setTop (entryFrame m #[(.ref b407), (.int (0 : Int32)), (.int p5)] 3)) t := fun t kt => by
    refine pre635 _ ?_
    show Steps p.tables e below (T634.setTop (mkF m 13 #[rv b407, iv (0 : Int32), iv p5] [(.ref b51_413)])) _
    refine XS.iloadN X634.here hx rfl (hb hby d4_13) rfl ?_
    show Steps p.tables e below (T634.setTop (mkF m 14 #[rv b407, iv (0 : Int32), iv p5] [(.int (0 : Int32)), (.ref b51_413)])) _
    refine X634.ldcInt hx hown (mvT hZ (W 21 rfl)) (g := (mkF m 14 #[rv b407, iv (0 : Int32), iv p5] [(.int (0 : Int32)), (.ref b51_413)])) rfl (hb hby d4_14) _ ?_
    show Steps p.tables e below (T634.setTop (mkF m 16 #[rv b407, iv (0 : Int32), iv p5] [(.int (65536 : Int32)), (.int (0 : Int32)), (.ref b51_413)])) _
    refine XS.idiv X634.here hx rfl (hb hby d4_16) rfl (by decide) ?_
    show  Steps p.tables e below (T634.setTop (mkF m 17 #[rv b407, iv (0 : Int32), iv p5] [(.int ((0 : Int32) / (65536 : Int32))), (.ref b51_413)])) _
    rw [(by decide : (((0 : Int32) / (65536 : Int32)) : Int32) = (0 : Int32))]
    exact kt
  obtain ⟨c636, Ar636, q636, S636, M636, H636, G636⟩ := id Fi0
  have i636 : ¬ ((0 : Int32) < 0 ∨ c636.slots.size ≤ ((0 : Int32)).toNatClampNeg) := inb_of S636 ⟨by decide, by decide⟩
  have t636 : c636.slots[((0 : Int32)).toNatClampNeg]? = some (.ref b221_416) := Has.at H636 i636 rfl
  have pre638 : ∀ t, Steps p.tables e below (T634.setTop (mkF m 23 #[rv b407, iv (0 : Int32), iv p5] [(.int p5), (.int (0 : Int32)), (.ref b221_416)])) t → Steps p.tables e below (s₁.setTop (entryFrame m #[(.ref b407), (.int (0 : Int32)), (.int p5)] 3)) t := fun t kt => by
    refine pre637 _ ?_
    show Steps p.tables e below (T634.setTop (mkF m 17 #[rv b407, iv (0 : Int32), iv p5] [(.int (0 : Int32)), (.ref b51_413)])) _
    refine X634.aaload hx (j := (0 : Int32)) (v := (.ref b221_416)) (by rw [e634]; exact Ar636.1) (State.isArrayOf_alike hZ.alike Ar636.2.1) rfl Ar636.2.2 i636 t636 (g := (mkF m 17 #[rv b407, iv (0 : Int32), iv p5] [(.int (0 : Int32)), (.ref b51_413)])) rfl rfl (hb hby d4_17) _ ?_
    show Steps p.tables e below (T634.setTop (mkF m 18 #[rv b407, iv (0 : Int32), iv p5] [(.ref b221_416)])) _
    refine XS.iloadN X634.here hx rfl (hb hby d4_18) rfl ?_
    show Steps p.tables e below (T634.setTop (mkF m 19 #[rv b407, iv (0 : Int32), iv p5] [(.int (0 : Int32)), (.ref b221_416)])) _
    refine X634.ldcInt hx hown (mvT hZ (W 21 rfl)) (g := (mkF m 19 #[rv b407, iv (0 : Int32), iv p5] [(.int (0 : Int32)), (.ref b221_416)])) rfl (hb hby d4_19) _ ?_
    show Steps p.tables e below (T634.setTop (mkF m 21 #[rv b407, iv (0 : Int32), iv p5] [(.int (65536 : Int32)), (.int (0 : Int32)), (.ref b221_416)])) _
    refine XS.irem X634.here hx rfl (hb hby d4_21) rfl (by decide) ?_
    show  Steps p.tables e below (T634.setTop (mkF m 22 #[rv b407, iv (0 : Int32), iv p5] [(.int ((0 : Int32) - ((0 : Int32) / (65536 : Int32)) * (65536 : Int32))), (.ref b221_416)])) _
    rw [(by decide : (((0 : Int32) - ((0 : Int32) / (65536 : Int32)) * (65536 : Int32)) : Int32) = (0 : Int32))]
    show Steps p.tables e below (T634.setTop (mkF m 22 #[rv b407, iv (0 : Int32), iv p5] [(.int (0 : Int32)), (.ref b221_416)])) _
    refine XS.iloadN X634.here hx rfl (hb hby d4_22) rfl ?_
    exact kt
  obtain ⟨c639, Ar639, q639, S639, M639, H639, G639⟩ := id Fi3
  have i639 : ¬ ((0 : Int32) < 0 ∨ c639.slots.size ≤ ((0 : Int32)).toNatClampNeg) := inb_of S639 ⟨by decide, by decide⟩
  obtain ⟨T640, h640, X640, e640, W640, st640⟩ := stI X634 hx hZ e634 Ar639 (j := (0 : Int32)) i639 (g := (mkF m 23 #[rv b407, iv (0 : Int32), iv p5] [(.int p5), (.int (0 : Int32)), (.ref b221_416)])) rfl rfl (hb hby d4_23)
  have pre641 : ∀ t, Steps p.tables e below (T640.setTop (mkF m 24 #[rv b407, iv (0 : Int32), iv p5] [])) t → Steps p.tables e below (s₁.setTop (entryFrame m #[(.ref b407), (.int (0 : Int32)), (.int p5)] 3)) t := fun t kt => pre638 _ (st640 _ kt)
  have N640 := Fr.snoc X640 N631 g_b221_416
  have O640 := O0.wr W640 g_b221_416
  have K640 : Keep h0 h640 [b221_416] := K0.wr W640 (Or.inl (List.mem_of_getElem? (i := 0) rfl))
  have F642 := Fi0.other W640 (fun q => q1 q.symm)
  have F643 := Fi1.other W640 (Or.inl (fun q => q0 q.symm))
  have F644 := Fi2.wr W640
  have F645 := Fi4.other W640 (Or.inl (fun q => q0 q.symm))
  have F646 : Arv Z h640 b221_416 k221_416 .int (16 : Int32) [(.int p5), (.int p1), (.int (0 : Int32)), (.int (0 : Int32)), (.int (0 : Int32)), (.int (0 : Int32)), (.int (0 : Int32)), (.int (0 : Int32)), (.int (0 : Int32)), (.int (0 : Int32)), (.int (0 : Int32)), (.int (0 : Int32)), (.int (0 : Int32)), (.int (0 : Int32)), (.int (0 : Int32)), (.int (0 : Int32))] (.int (0 : Int32)) := Arv.set Ar639 q639 S639 M639 H639 G639 rfl W640 0 rfl (Nat.le_of_ble_eq_true rfl)
  obtain ⟨fs, hr, hrun, hended, hW, hsame⟩ := X640.leave (v := none) (fun _ => rfl)
  refine ⟨_, _, pre641 _ (X640.returnOut hx Bd.returns (hb hby d4_24) hr), hrun, hended, _, _, rfl, ?_, ⟨_, rfl⟩, hW, hsame.mono (by decide) (by decide)⟩
  show Q_set4_1 Z b407 p5 k51_413 b51_413 b221_416 p0 p1 k221_416 h0 n0 _ T640.heap _
  rw [e640]
  exact ⟨rfl, N640, K640, O640, F644, F646⟩
def Q_size7_1 (Z : State) (b407 : Addr) (h0 : Heap) (n0 : Nat) (v : Option Value) (h : Heap) (L : List Loc) : Prop := v = some (.int (2 : Int32)) ∧ Fr n0 L ∧ h = h0
set_option maxRecDepth 65536 in
set_option maxHeartbeats 40000000 in
theorem rm_size7_1 (l : Launch) (Z : State) (a0 : Array Value) (hw : ∀ d ∈ tables_1, d.before a0 Z = true) (ws : List Jvm.Cond) (b407 : Addr) (h0 : Heap) (n0 : Nat) (O0 : Old Z n0 h0) (Fi0 : Fld Z h0 b407 "org/reachwatch/IntBlocks" "size" "I" (.int (2 : Int32))) :
    MetFree l (⟨"org/reachwatch/IntBlocks", "size", "()I"⟩ : MethodName) (head1 (Jvm.Cond.code (⟨"org/reachwatch/IntBlocks", "size", "()I"⟩ : MethodName) prog_56_method_5_code 1 (some .int) :: ws) ({ frames := 0, cells := 0, slots := 0, locals := 0 } : Room)) (fun a U => a = #[(.ref b407)] ∧ Z.Warmed39 U.vm ∧ U.heap = h0) (fun _ _ _ _ _ => True) (fun _ U o U' => ∃ v L, o = .returned v ∧ Q_size7_1 Z b407 h0 n0 v U'.heap L ∧ FrameEnd U o U' L ({ frames := 0, cells := 0, slots := 0, locals := 0 } : Room).cells ({ frames := 0, cells := 0, slots := 0, locals := 0 } : Room).slots) := by
  refine MetFree.of_bodySF (plainFor_of_name pn_2) hisR ?_
  intro p e s m args below meth c s₁ Bd hml0 hP hK
  have W := fun {d : Jvm.Cond} (i : Nat) (q : tables_1[i]? = some d) => hw d (List.mem_of_getElem? q)
  obtain ⟨rfl, hZ, hh⟩ := hP
  have hx := Bd.exec
  have hby := Bd.bytes
  have hml : c.maxLocals = 1 := hml0
  have hown : s.vm.findClass "org/reachwatch/IntBlocks" = some m.cls := findClass_of_methodNamed Bd.named
  have hnm := (name_of_methodNamed Bd.named Bd.method).1
  have X0 : Stand p l e ({ frames := 0, cells := 0, slots := 0, locals := 0 } : Room) s m #[(.ref b407)] below meth c s₁ [] 0 0 := Stand.of_body Bd
  have e0 : s₁.heap = h0 := by rw [← hh, Bd.state]; rfl
  have N0 := Fr.nil n0
  have pre0 : ∀ t, Steps p.tables e below (s₁.setTop (mkF m 0 #[rv b407] [])) t → Steps p.tables e below (s₁.setTop (entryFrame m #[(.ref b407)] 1)) t := fun t k => castTop (ef_15 m b407) k
  have K0 : Keep h0 h0 [] := Keep.refl h0 []
  have pre661 : ∀ t, Steps p.tables e below (s₁.setTop (mkF m 1 #[rv b407] [(.ref b407)])) t → Steps p.tables e below (s₁.setTop (entryFrame m #[(.ref b407)] 1)) t := fun t kt => by
    refine pre0 _ ?_
    show Steps p.tables e below (s₁.setTop (mkF m 0 #[rv b407] [])) _
    refine XS.aloadN X0.here hx rfl (hb hby d7_0) rfl rfl ?_
    exact kt
  obtain ⟨T662, X662, e662, st662⟩ := getF X0 hx hZ hown (host := "") (Or.inl (W 19 rfl)) Via.refl e0 Fi0 (g := (mkF m 1 #[rv b407] [(.ref b407)])) rfl rfl (hb hby d7_1)
  have pre663 : ∀ t, Steps p.tables e below (T662.setTop (mkF m 4 #[rv b407] [(.int (2 : Int32))])) t → Steps p.tables e below (s₁.setTop (entryFrame m #[(.ref b407)] 1)) t := fun t kt => pre661 _ (st662 _ kt)
  obtain ⟨fs, hr, hrun, hended, hW, hsame⟩ := X662.leave (v := some (.int (2 : Int32))) (fun h => by rw [Bd.returns] at h; cases h)
  refine ⟨_, _, pre663 _ (retI X662 hx Bd.returns (hb hby d7_4) hr), hrun, hended, _, _, rfl, ?_, ⟨_, rfl⟩, hW, hsame.mono (by decide) (by decide)⟩
  show Q_size7_1 Z b407 h0 n0 _ T662.heap _
  rw [e662]
  exact ⟨rfl, N0, rfl⟩
def Q_get8_1 (Z : State) (b407 : Addr) (k51_413 : ClassId) (b51_413 : Addr) (b221_416 : Addr) (p5 : Int32) (p1 : Int32) (k221_416 : ClassId) (h0 : Heap) (n0 : Nat) (v : Option Value) (h : Heap) (L : List Loc) : Prop := v = some (.int p5) ∧ Fr n0 L ∧ h = h0
set_option maxRecDepth 65536 in
set_option maxHeartbeats 40000000 in
theorem rm_get8_1 (l : Launch) (Z : State) (a0 : Array Value) (hw : ∀ d ∈ tables_1, d.before a0 Z = true) (ws : List Jvm.Cond) (b407 : Addr) (k51_413 : ClassId) (b51_413 : Addr) (b221_416 : Addr) (p5 : Int32) (p1 : Int32) (k221_416 : ClassId) (h0 : Heap) (n0 : Nat) (O0 : Old Z n0 h0) (Fi0 : Arv Z h0 b51_413 k51_413 (.array .int) (1 : Int32) [(.ref b221_416)] .null) (Fi1 : Fld Z h0 b407 "org/reachwatch/IntBlocks" "blocks" "[[I" (.ref b51_413)) (Fi2 : Fld Z h0 b407 "org/reachwatch/IntBlocks" "size" "I" (.int (2 : Int32))) (Fi3 : Arv Z h0 b221_416 k221_416 .int (16 : Int32) [(.int p5), (.int p1), (.int (0 : Int32)), (.int (0 : Int32)), (.int (0 : Int32)), (.int (0 : Int32)), (.int (0 : Int32)), (.int (0 : Int32)), (.int (0 : Int32)), (.int (0 : Int32)), (.int (0 : Int32)), (.int (0 : Int32)), (.int (0 : Int32)), (.int (0 : Int32)), (.int (0 : Int32)), (.int (0 : Int32))] (.int (0 : Int32))) :
    MetFree l (⟨"org/reachwatch/IntBlocks", "get", "(I)I"⟩ : MethodName) (head1 (Jvm.Cond.code (⟨"org/reachwatch/IntBlocks", "get", "(I)I"⟩ : MethodName) prog_56_method_3_code 2 (some .int) :: ws) ({ frames := 2, cells := 0, slots := 0, locals := 27 } : Room)) (fun a U => a = #[(.ref b407), (.int (0 : Int32))] ∧ Z.Warmed39 U.vm ∧ U.heap = h0) (fun _ _ _ _ _ => True) (fun _ U o U' => ∃ v L, o = .returned v ∧ Q_get8_1 Z b407 k51_413 b51_413 b221_416 p5 p1 k221_416 h0 n0 v U'.heap L ∧ FrameEnd U o U' L ({ frames := 2, cells := 0, slots := 0, locals := 27 } : Room).cells ({ frames := 2, cells := 0, slots := 0, locals := 27 } : Room).slots) := by
  refine MetFree.of_bodySF (plainFor_of_name pn_2) hisR ?_
  intro p e s m args below meth c s₁ Bd hml0 hP hK
  have W := fun {d : Jvm.Cond} (i : Nat) (q : tables_1[i]? = some d) => hw d (List.mem_of_getElem? q)
  obtain ⟨rfl, hZ, hh⟩ := hP
  have hx := Bd.exec
  have hby := Bd.bytes
  have hml : c.maxLocals = 2 := hml0
  have hown : s.vm.findClass "org/reachwatch/IntBlocks" = some m.cls := findClass_of_methodNamed Bd.named
  have hnm := (name_of_methodNamed Bd.named Bd.method).1
  have X0 : Stand p l e ({ frames := 2, cells := 0, slots := 0, locals := 27 } : Room) s m #[(.ref b407), (.int (0 : Int32))] below meth c s₁ [] 0 0 := Stand.of_body Bd
  have e0 : s₁.heap = h0 := by rw [← hh, Bd.state]; rfl
  have N0 := Fr.nil n0
  have pre0 : ∀ t, Steps p.tables e below (s₁.setTop (mkF m 0 #[rv b407, iv (0 : Int32)] [])) t → Steps p.tables e below (s₁.setTop (entryFrame m #[(.ref b407), (.int (0 : Int32))] 2)) t := fun t k => castTop (ef_17 m b407 (0 : Int32)) k
  have K0 : Keep h0 h0 [] := Keep.refl h0 []
  have pre693 : ∀ t, Steps p.tables e below (s₁.setTop (mkF m 2 #[rv b407, iv (0 : Int32)] [(.ref b407), (.int (0 : Int32))])) t → Steps p.tables e below (s₁.setTop (entryFrame m #[(.ref b407), (.int (0 : Int32))] 2)) t := fun t kt => by
    refine pre0 _ ?_
    show Steps p.tables e below (s₁.setTop (mkF m 0 #[rv b407, iv (0 : Int32)] [])) _
    refine XS.iloadN X0.here hx rfl (hb hby d8_0) rfl ?_
    show Steps p.tables e below (s₁.setTop (mkF m 1 #[rv b407, iv (0 : Int32)] [(.int (0 : Int32))])) _
    refine XS.aloadN X0.here hx rfl (hb hby d8_1) rfl rfl ?_
    exact kt
  obtain ⟨T694, X694, e694, st694⟩ := getF X0 hx hZ hown (host := "") (Or.inl (W 19 rfl)) Via.refl e0 Fi2 (g := (mkF m 2 #[rv b407, iv (0 : Int32)] [(.ref b407), (.int (0 : Int32))])) rfl rfl (hb hby d8_2)
  have pre695 : ∀ t, Steps p.tables e below (T694.setTop (mkF m 5 #[rv b407, iv (0 : Int32)] [(.int (2 : Int32)), (.int (0 : Int32))])) t → Steps p.tables e below (s₁.setTop (entryFrame m #[(.ref b407), (.int (0 : Int32))] 2)) t := fun t kt => pre693 _ (st694 _ kt)
  obtain ⟨_, _, ⟨T696, L696, k696, n696⟩, -, X696, ⟨Lc696, hQ696, l696, y696, z696⟩, st696⟩ := Jvm.LawKit.callS X694 hx (y := (⟨"java/util/Objects", "checkIndex", "(II)I"⟩ : MethodName)) hown (mvT hZ (W 29 rfl)) (mvT hZ (W 30 rfl)) (mvT hZ (W 31 rfl)) (mvT hZ (W 32 rfl)) (by decide) (backOf (W := 0) (rm_checkIndex5_1 l Z a0 hw [] h0 n0 O0) hZ (W 32 rfl) (W 31 rfl) (by decide) (by decide)) (g := (mkF m 5 #[rv b407, iv (0 : Int32)] [(.int (2 : Int32)), (.int (0 : Int32))])) rfl (by rw [hml]; rfl) (argsL := [(.int (0 : Int32)), (.int (2 : Int32))]) (rest := []) (lenOf pd_12 rfl) rfl (by show 2 * 0 + _ ≤ _; exact Nat.le_of_eq rfl) (hb hby d8_5) (fun _ _ => ⟨rfl, e694, (by decide : 0 + 0 ≤ _), (by decide : 0 + 0 ≤ _)⟩)
  dsimp only [Pt.U, Pt.locs, Pt.cells, Pt.slots] at X696 l696 y696 z696 st696 hQ696
  replace l696 := l696.symm
  replace y696 : 0 = k696 := y696.symm
  replace z696 : 0 = n696 := z696.symm
  subst l696 y696 z696
  obtain ⟨rfl, M696, e696⟩ := hQ696
  have N696 := Fr.app N0 M696
  have pre697 : ∀ t, Steps p.tables e below (T696.setTop (mkF m 8 #[rv b407, iv (0 : Int32)] [(.int (0 : Int32))])) t → Steps p.tables e below (s₁.setTop (entryFrame m #[(.ref b407), (.int (0 : Int32))] 2)) t := fun t kt => pre695 _ (st696 _ kt)
  have pre698 : ∀ t, Steps p.tables e below (T696.setTop (mkF m 10 #[rv b407, iv (0 : Int32)] [(.ref b407)])) t → Steps p.tables e below (s₁.setTop (entryFrame m #[(.ref b407), (.int (0 : Int32))] 2)) t := fun t kt => by
    refine pre697 _ ?_
    show Steps p.tables e below (T696.setTop (mkF m 8 #[rv b407, iv (0 : Int32)] [(.int (0 : Int32))])) _
    refine XS.pop X696.here hx rfl (hb hby d8_8) rfl rfl ?_
    show Steps p.tables e below (T696.setTop (mkF m 9 #[rv b407, iv (0 : Int32)] [])) _
    refine XS.aloadN X696.here hx rfl (hb hby d8_9) rfl rfl ?_
    exact kt
  obtain ⟨T699, X699, e699, st699⟩ := getF X696 hx hZ hown (host := "") (Or.inl (W 12 rfl)) Via.refl e696 Fi1 (g := (mkF m 10 #[rv b407, iv (0 : Int32)] [(.ref b407)])) rfl rfl (hb hby d8_10)
  have pre700 : ∀ t, Steps p.tables e below (T699.setTop (mkF m 13 #[rv b407, iv (0 : Int32)] [(.ref b51_413)])) t → Steps p.tables e below (s₁.setTop (entryFrame m #[(.ref b407), (.int (0 : Int32))] 2)) t := fun t kt => pre698 _ (st699 _ kt)
  have pre702 : ∀ t, Steps p.tables e below (T699.setTop (mkF m 17 #[rv b407, iv (0 : Int32)] [(.int (0 : Int32)), (.ref b51_413)])) t → Steps p.tables e below (s₁.setTop (entryFrame m #[(.ref b407), (.int (0 : Int32))] 2)) t := fun t kt => by
    refine pre700 _ ?_
    show Steps p.tables e below (T699.setTop (mkF m 13 #[rv b407, iv (0 : Int32)] [(.ref b51_413)])) _
    refine XS.iloadN X699.here hx rfl (hb hby d8_13) rfl ?_
    show Steps p.tables e below (T699.setTop (mkF m 14 #[rv b407, iv (0 : Int32)] [(.int (0 : Int32)), (.ref b51_413)])) _
    refine X699.ldcInt hx hown (mvT hZ (W 21 rfl)) (g := (mkF m 14 #[rv b407, iv (0 : Int32)] [(.int (0 : Int32)), (.ref b51_413)])) rfl (hb hby d8_14) _ ?_
    show Steps p.tables e below (T699.setTop (mkF m 16 #[rv b407, iv (0 : Int32)] [(.int (65536 : Int32)), (.int (0 : Int32)), (.ref b51_413)])) _
    refine XS.idiv X699.here hx rfl (hb hby d8_16) rfl (by decide) ?_
    show  Steps p.tables e below (T699.setTop (mkF m 17 #[rv b407, iv (0 : Int32)] [(.int ((0 : Int32) / (65536 : Int32))), (.ref b51_413)])) _
    rw [(by decide : (((0 : Int32) / (65536 : Int32)) : Int32) = (0 : Int32))]
    exact kt
  obtain ⟨c701, Ar701, q701, S701, M701, H701, G701⟩ := id Fi0
  have i701 : ¬ ((0 : Int32) < 0 ∨ c701.slots.size ≤ ((0 : Int32)).toNatClampNeg) := inb_of S701 ⟨by decide, by decide⟩
  have t701 : c701.slots[((0 : Int32)).toNatClampNeg]? = some (.ref b221_416) := Has.at H701 i701 rfl
  have pre704 : ∀ t, Steps p.tables e below (T699.setTop (mkF m 22 #[rv b407, iv (0 : Int32)] [(.int (0 : Int32)), (.ref b221_416)])) t → Steps p.tables e below (s₁.setTop (entryFrame m #[(.ref b407), (.int (0 : Int32))] 2)) t := fun t kt => by
    refine pre702 _ ?_
    show Steps p.tables e below (T699.setTop (mkF m 17 #[rv b407, iv (0 : Int32)] [(.int (0 : Int32)), (.ref b51_413)])) _
    refine X699.aaload hx (j := (0 : Int32)) (v := (.ref b221_416)) (by rw [e699]; exact Ar701.1) (State.isArrayOf_alike hZ.alike Ar701.2.1) rfl Ar701.2.2 i701 t701 (g := (mkF m 17 #[rv b407, iv (0 : Int32)] [(.int (0 : Int32)), (.ref b51_413)])) rfl rfl (hb hby d8_17) _ ?_
    show Steps p.tables e below (T699.setTop (mkF m 18 #[rv b407, iv (0 : Int32)] [(.ref b221_416)])) _
    refine XS.iloadN X699.here hx rfl (hb hby d8_18) rfl ?_
    show Steps p.tables e below (T699.setTop (mkF m 19 #[rv b407, iv (0 : Int32)] [(.int (0 : Int32)), (.ref b221_416)])) _
    refine X699.ldcInt hx hown (mvT hZ (W 21 rfl)) (g := (mkF m 19 #[rv b407, iv (0 : Int32)] [(.int (0 : Int32)), (.ref b221_416)])) rfl (hb hby d8_19) _ ?_
    show Steps p.tables e below (T699.setTop (mkF m 21 #[rv b407, iv (0 : Int32)] [(.int (65536 : Int32)), (.int (0 : Int32)), (.ref b221_416)])) _
    refine XS.irem X699.here hx rfl (hb hby d8_21) rfl (by decide) ?_
    show  Steps p.tables e below (T699.setTop (mkF m 22 #[rv b407, iv (0 : Int32)] [(.int ((0 : Int32) - ((0 : Int32) / (65536 : Int32)) * (65536 : Int32))), (.ref b221_416)])) _
    rw [(by decide : (((0 : Int32) - ((0 : Int32) / (65536 : Int32)) * (65536 : Int32)) : Int32) = (0 : Int32))]
    exact kt
  obtain ⟨c703, Ar703, q703, S703, M703, H703, G703⟩ := id Fi3
  have i703 : ¬ ((0 : Int32) < 0 ∨ c703.slots.size ≤ ((0 : Int32)).toNatClampNeg) := inb_of S703 ⟨by decide, by decide⟩
  have t703 : c703.slots[((0 : Int32)).toNatClampNeg]? = some (.int p5) := Has.at H703 i703 rfl
  have pre705 : ∀ t, Steps p.tables e below (T699.setTop (mkF m 23 #[rv b407, iv (0 : Int32)] [(.int p5)])) t → Steps p.tables e below (s₁.setTop (entryFrame m #[(.ref b407), (.int (0 : Int32))] 2)) t := fun t kt => by
    refine pre704 _ ?_
    show Steps p.tables e below (T699.setTop (mkF m 22 #[rv b407, iv (0 : Int32)] [(.int (0 : Int32)), (.ref b221_416)])) _
    refine X699.iaload hx (j := (0 : Int32)) (v := (.int p5)) (by rw [e699]; exact Ar703.1) (State.isArrayOf_alike hZ.alike Ar703.2.1) Ar703.2.2 i703 t703 (g := (mkF m 22 #[rv b407, iv (0 : Int32)] [(.int (0 : Int32)), (.ref b221_416)])) rfl rfl (hb hby d8_22) _ ?_
    exact kt
  obtain ⟨fs, hr, hrun, hended, hW, hsame⟩ := X699.leave (v := some (.int p5)) (fun h => by rw [Bd.returns] at h; cases h)
  refine ⟨_, _, pre705 _ (retI X699 hx Bd.returns (hb hby d8_23) hr), hrun, hended, _, _, rfl, ?_, ⟨_, rfl⟩, hW, hsame.mono (by decide) (by decide)⟩
  show Q_get8_1 Z b407 k51_413 b51_413 b221_416 p5 p1 k221_416 h0 n0 _ T699.heap _
  rw [e699]
  exact ⟨rfl, N696, rfl⟩
def Q_checkIndex6_2 (Z : State)  (h0 : Heap) (n0 : Nat) (v : Option Value) (h : Heap) (L : List Loc) : Prop := v = some (.int (1 : Int32)) ∧ Fr n0 L ∧ h = h0
set_option maxRecDepth 65536 in
set_option maxHeartbeats 40000000 in
theorem rm_checkIndex6_2 (l : Launch) (Z : State) (a0 : Array Value) (hw : ∀ d ∈ tables_1, d.before a0 Z = true) (ws : List Jvm.Cond)  (h0 : Heap) (n0 : Nat) (O0 : Old Z n0 h0) :
    MetFree l (⟨"jdk/internal/util/Preconditions", "checkIndex", "(IILjava/util/function/BiFunction;)I"⟩ : MethodName) (head1 (Jvm.Cond.code (⟨"jdk/internal/util/Preconditions", "checkIndex", "(IILjava/util/function/BiFunction;)I"⟩ : MethodName) jdk_41_method_11_code 3 (some .int) :: ws) ({ frames := 0, cells := 0, slots := 0, locals := 0 } : Room)) (fun a U => a = #[(.int (1 : Int32)), (.int (2 : Int32)), .null] ∧ Z.Warmed39 U.vm ∧ U.heap = h0) (fun _ _ _ _ _ => True) (fun _ U o U' => ∃ v L, o = .returned v ∧ Q_checkIndex6_2 Z  h0 n0 v U'.heap L ∧ FrameEnd U o U' L ({ frames := 0, cells := 0, slots := 0, locals := 0 } : Room).cells ({ frames := 0, cells := 0, slots := 0, locals := 0 } : Room).slots) := by
  refine MetFree.of_bodySF (plainFor_of_name pn_7) hisR ?_
  intro p e s m args below meth c s₁ Bd hml0 hP hK
  have W := fun {d : Jvm.Cond} (i : Nat) (q : tables_1[i]? = some d) => hw d (List.mem_of_getElem? q)
  obtain ⟨rfl, hZ, hh⟩ := hP
  have hx := Bd.exec
  have hby := Bd.bytes
  have hml : c.maxLocals = 3 := hml0
  have hown : s.vm.findClass "jdk/internal/util/Preconditions" = some m.cls := findClass_of_methodNamed Bd.named
  have hnm := (name_of_methodNamed Bd.named Bd.method).1
  have X0 : Stand p l e ({ frames := 0, cells := 0, slots := 0, locals := 0 } : Room) s m #[(.int (1 : Int32)), (.int (2 : Int32)), .null] below meth c s₁ [] 0 0 := Stand.of_body Bd
  have e0 : s₁.heap = h0 := by rw [← hh, Bd.state]; rfl
  have N0 := Fr.nil n0
  have pre0 : ∀ t, Steps p.tables e below (s₁.setTop (mkF m 0 #[iv (1 : Int32), iv (2 : Int32), .val .null] [])) t → Steps p.tables e below (s₁.setTop (entryFrame m #[(.int (1 : Int32)), (.int (2 : Int32)), .null] 3)) t := fun t k => castTop (ef_8 m (1 : Int32) (2 : Int32)) k
  have K0 : Keep h0 h0 [] := Keep.refl h0 []
  have pre717 : ∀ t, Steps p.tables e below (s₁.setTop (mkF m 17 #[iv (1 : Int32), iv (2 : Int32), .val .null] [(.int (1 : Int32))])) t → Steps p.tables e below (s₁.setTop (entryFrame m #[(.int (1 : Int32)), (.int (2 : Int32)), .null] 3)) t := fun t kt => by
    refine pre0 _ ?_
    show Steps p.tables e below (s₁.setTop (mkF m 0 #[iv (1 : Int32), iv (2 : Int32), .val .null] [])) _
    refine XS.iloadN X0.here hx rfl (hb hby d6_0) rfl ?_
    show Steps p.tables e below (s₁.setTop (mkF m 1 #[iv (1 : Int32), iv (2 : Int32), .val .null] [(.int (1 : Int32))])) _
    refine XS.ifNo X0.here hx rfl (hb hby d6_1) rfl (XT.i0_lt_f (by decide)) ?_
    show Steps p.tables e below (s₁.setTop (mkF m 4 #[iv (1 : Int32), iv (2 : Int32), .val .null] [])) _
    refine XS.iloadN X0.here hx rfl (hb hby d6_4) rfl ?_
    show Steps p.tables e below (s₁.setTop (mkF m 5 #[iv (1 : Int32), iv (2 : Int32), .val .null] [(.int (1 : Int32))])) _
    refine XS.iloadN X0.here hx rfl (hb hby d6_5) rfl ?_
    show Steps p.tables e below (s₁.setTop (mkF m 6 #[iv (1 : Int32), iv (2 : Int32), .val .null] [(.int (2 : Int32)), (.int (1 : Int32))])) _
    refine XS.icmpYes X0.here hx rfl (pc0 := 6) (pc' := 16) rfl (hb hby d6_6) rfl (XT.ii_lt_t (by decide)) (by decide) (by decide) ?_
    show Steps p.tables e below (s₁.setTop (mkF m 16 #[iv (1 : Int32), iv (2 : Int32), .val .null] [])) _
    refine XS.iloadN X0.here hx rfl (hb hby d6_16) rfl ?_
    exact kt
  obtain ⟨fs, hr, hrun, hended, hW, hsame⟩ := X0.leave (v := some (.int (1 : Int32))) (fun h => by rw [Bd.returns] at h; cases h)
  refine ⟨_, _, pre717 _ (retI X0 hx Bd.returns (hb hby d6_17) hr), hrun, hended, _, _, rfl, ?_, ⟨_, rfl⟩, hW, hsame.mono (by decide) (by decide)⟩
  show Q_checkIndex6_2 Z  h0 n0 _ s₁.heap _
  rw [e0]
  exact ⟨rfl, N0, rfl⟩
def Q_checkIndex5_2 (Z : State)  (h0 : Heap) (n0 : Nat) (v : Option Value) (h : Heap) (L : List Loc) : Prop := v = some (.int (1 : Int32)) ∧ Fr n0 L ∧ h = h0
set_option maxRecDepth 65536 in
set_option maxHeartbeats 40000000 in
theorem rm_checkIndex5_2 (l : Launch) (Z : State) (a0 : Array Value) (hw : ∀ d ∈ tables_1, d.before a0 Z = true) (ws : List Jvm.Cond)  (h0 : Heap) (n0 : Nat) (O0 : Old Z n0 h0) :
    MetFree l (⟨"java/util/Objects", "checkIndex", "(II)I"⟩ : MethodName) (head1 (Jvm.Cond.code (⟨"java/util/Objects", "checkIndex", "(II)I"⟩ : MethodName) jdk_31_method_17_code 2 (some .int) :: ws) ({ frames := 1, cells := 0, slots := 0, locals := 14 } : Room)) (fun a U => a = #[(.int (1 : Int32)), (.int (2 : Int32))] ∧ Z.Warmed39 U.vm ∧ U.heap = h0) (fun _ _ _ _ _ => True) (fun _ U o U' => ∃ v L, o = .returned v ∧ Q_checkIndex5_2 Z  h0 n0 v U'.heap L ∧ FrameEnd U o U' L ({ frames := 1, cells := 0, slots := 0, locals := 14 } : Room).cells ({ frames := 1, cells := 0, slots := 0, locals := 14 } : Room).slots) := by
  refine MetFree.of_bodySF (plainFor_of_name pn_10) hisR ?_
  intro p e s m args below meth c s₁ Bd hml0 hP hK
  have W := fun {d : Jvm.Cond} (i : Nat) (q : tables_1[i]? = some d) => hw d (List.mem_of_getElem? q)
  obtain ⟨rfl, hZ, hh⟩ := hP
  have hx := Bd.exec
  have hby := Bd.bytes
  have hml : c.maxLocals = 2 := hml0
  have hown : s.vm.findClass "java/util/Objects" = some m.cls := findClass_of_methodNamed Bd.named
  have hnm := (name_of_methodNamed Bd.named Bd.method).1
  have X0 : Stand p l e ({ frames := 1, cells := 0, slots := 0, locals := 14 } : Room) s m #[(.int (1 : Int32)), (.int (2 : Int32))] below meth c s₁ [] 0 0 := Stand.of_body Bd
  have e0 : s₁.heap = h0 := by rw [← hh, Bd.state]; rfl
  have N0 := Fr.nil n0
  have pre0 : ∀ t, Steps p.tables e below (s₁.setTop (mkF m 0 #[iv (1 : Int32), iv (2 : Int32)] [])) t → Steps p.tables e below (s₁.setTop (entryFrame m #[(.int (1 : Int32)), (.int (2 : Int32))] 2)) t := fun t k => castTop (ef_11 m (1 : Int32) (2 : Int32)) k
  have K0 : Keep h0 h0 [] := Keep.refl h0 []
  have pre722 : ∀ t, Steps p.tables e below (s₁.setTop (mkF m 3 #[iv (1 : Int32), iv (2 : Int32)] [.null, (.int (2 : Int32)), (.int (1 : Int32))])) t → Steps p.tables e below (s₁.setTop (entryFrame m #[(.int (1 : Int32)), (.int (2 : Int32))] 2)) t := fun t kt => by
    refine pre0 _ ?_
    show Steps p.tables e below (s₁.setTop (mkF m 0 #[iv (1 : Int32), iv (2 : Int32)] [])) _
    refine XS.iloadN X0.here hx rfl (hb hby d5_0) rfl ?_
    show Steps p.tables e below (s₁.setTop (mkF m 1 #[iv (1 : Int32), iv (2 : Int32)] [(.int (1 : Int32))])) _
    refine XS.iloadN X0.here hx rfl (hb hby d5_1) rfl ?_
    show Steps p.tables e below (s₁.setTop (mkF m 2 #[iv (1 : Int32), iv (2 : Int32)] [(.int (2 : Int32)), (.int (1 : Int32))])) _
    refine XS.aconstNull X0.here hx rfl (hb hby d5_2) ?_
    exact kt
  obtain ⟨_, _, ⟨T723, L723, k723, n723⟩, -, X723, ⟨Lc723, hQ723, l723, y723, z723⟩, st723⟩ := Jvm.LawKit.callS X0 hx (y := (⟨"jdk/internal/util/Preconditions", "checkIndex", "(IILjava/util/function/BiFunction;)I"⟩ : MethodName)) hown (mvT hZ (W 33 rfl)) (mvT hZ (W 34 rfl)) (mvT hZ (W 35 rfl)) (mvT hZ (W 36 rfl)) (by decide) (backOf (W := 0) (rm_checkIndex6_2 l Z a0 hw [] h0 n0 O0) hZ (W 36 rfl) (W 35 rfl) (by decide) (by decide)) (g := (mkF m 3 #[iv (1 : Int32), iv (2 : Int32)] [.null, (.int (2 : Int32)), (.int (1 : Int32))])) rfl (by rw [hml]; rfl) (argsL := [(.int (1 : Int32)), (.int (2 : Int32)), .null]) (rest := []) (lenOf pd_9 rfl) rfl (by show 2 * 0 + _ ≤ _; exact Nat.le_of_eq rfl) (hb hby d5_3) (fun _ _ => ⟨rfl, e0, (by decide : 0 + 0 ≤ _), (by decide : 0 + 0 ≤ _)⟩)
  dsimp only [Pt.U, Pt.locs, Pt.cells, Pt.slots] at X723 l723 y723 z723 st723 hQ723
  replace l723 := l723.symm
  replace y723 : 0 = k723 := y723.symm
  replace z723 : 0 = n723 := z723.symm
  subst l723 y723 z723
  obtain ⟨rfl, M723, e723⟩ := hQ723
  have N723 := Fr.app N0 M723
  have pre724 : ∀ t, Steps p.tables e below (T723.setTop (mkF m 6 #[iv (1 : Int32), iv (2 : Int32)] [(.int (1 : Int32))])) t → Steps p.tables e below (s₁.setTop (entryFrame m #[(.int (1 : Int32)), (.int (2 : Int32))] 2)) t := fun t kt => pre722 _ (st723 _ kt)
  obtain ⟨fs, hr, hrun, hended, hW, hsame⟩ := X723.leave (v := some (.int (1 : Int32))) (fun h => by rw [Bd.returns] at h; cases h)
  refine ⟨_, _, pre724 _ (retI X723 hx Bd.returns (hb hby d5_6) hr), hrun, hended, _, _, rfl, ?_, ⟨_, rfl⟩, hW, hsame.mono (by decide) (by decide)⟩
  show Q_checkIndex5_2 Z  h0 n0 _ T723.heap _
  rw [e723]
  exact ⟨rfl, N723, rfl⟩
def Q_get8_2 (Z : State) (b407 : Addr) (k51_413 : ClassId) (b51_413 : Addr) (b221_416 : Addr) (p5 : Int32) (p1 : Int32) (k221_416 : ClassId) (h0 : Heap) (n0 : Nat) (v : Option Value) (h : Heap) (L : List Loc) : Prop := v = some (.int p1) ∧ Fr n0 L ∧ h = h0
set_option maxRecDepth 65536 in
set_option maxHeartbeats 40000000 in
theorem rm_get8_2 (l : Launch) (Z : State) (a0 : Array Value) (hw : ∀ d ∈ tables_1, d.before a0 Z = true) (ws : List Jvm.Cond) (b407 : Addr) (k51_413 : ClassId) (b51_413 : Addr) (b221_416 : Addr) (p5 : Int32) (p1 : Int32) (k221_416 : ClassId) (h0 : Heap) (n0 : Nat) (O0 : Old Z n0 h0) (Fi0 : Arv Z h0 b51_413 k51_413 (.array .int) (1 : Int32) [(.ref b221_416)] .null) (Fi1 : Fld Z h0 b407 "org/reachwatch/IntBlocks" "blocks" "[[I" (.ref b51_413)) (Fi2 : Fld Z h0 b407 "org/reachwatch/IntBlocks" "size" "I" (.int (2 : Int32))) (Fi3 : Arv Z h0 b221_416 k221_416 .int (16 : Int32) [(.int p5), (.int p1), (.int (0 : Int32)), (.int (0 : Int32)), (.int (0 : Int32)), (.int (0 : Int32)), (.int (0 : Int32)), (.int (0 : Int32)), (.int (0 : Int32)), (.int (0 : Int32)), (.int (0 : Int32)), (.int (0 : Int32)), (.int (0 : Int32)), (.int (0 : Int32)), (.int (0 : Int32)), (.int (0 : Int32))] (.int (0 : Int32))) :
    MetFree l (⟨"org/reachwatch/IntBlocks", "get", "(I)I"⟩ : MethodName) (head1 (Jvm.Cond.code (⟨"org/reachwatch/IntBlocks", "get", "(I)I"⟩ : MethodName) prog_56_method_3_code 2 (some .int) :: ws) ({ frames := 2, cells := 0, slots := 0, locals := 27 } : Room)) (fun a U => a = #[(.ref b407), (.int (1 : Int32))] ∧ Z.Warmed39 U.vm ∧ U.heap = h0) (fun _ _ _ _ _ => True) (fun _ U o U' => ∃ v L, o = .returned v ∧ Q_get8_2 Z b407 k51_413 b51_413 b221_416 p5 p1 k221_416 h0 n0 v U'.heap L ∧ FrameEnd U o U' L ({ frames := 2, cells := 0, slots := 0, locals := 27 } : Room).cells ({ frames := 2, cells := 0, slots := 0, locals := 27 } : Room).slots) := by
  refine MetFree.of_bodySF (plainFor_of_name pn_2) hisR ?_
  intro p e s m args below meth c s₁ Bd hml0 hP hK
  have W := fun {d : Jvm.Cond} (i : Nat) (q : tables_1[i]? = some d) => hw d (List.mem_of_getElem? q)
  obtain ⟨rfl, hZ, hh⟩ := hP
  have hx := Bd.exec
  have hby := Bd.bytes
  have hml : c.maxLocals = 2 := hml0
  have hown : s.vm.findClass "org/reachwatch/IntBlocks" = some m.cls := findClass_of_methodNamed Bd.named
  have hnm := (name_of_methodNamed Bd.named Bd.method).1
  have X0 : Stand p l e ({ frames := 2, cells := 0, slots := 0, locals := 27 } : Room) s m #[(.ref b407), (.int (1 : Int32))] below meth c s₁ [] 0 0 := Stand.of_body Bd
  have e0 : s₁.heap = h0 := by rw [← hh, Bd.state]; rfl
  have N0 := Fr.nil n0
  have pre0 : ∀ t, Steps p.tables e below (s₁.setTop (mkF m 0 #[rv b407, iv (1 : Int32)] [])) t → Steps p.tables e below (s₁.setTop (entryFrame m #[(.ref b407), (.int (1 : Int32))] 2)) t := fun t k => castTop (ef_17 m b407 (1 : Int32)) k
  have K0 : Keep h0 h0 [] := Keep.refl h0 []
  have pre747 : ∀ t, Steps p.tables e below (s₁.setTop (mkF m 2 #[rv b407, iv (1 : Int32)] [(.ref b407), (.int (1 : Int32))])) t → Steps p.tables e below (s₁.setTop (entryFrame m #[(.ref b407), (.int (1 : Int32))] 2)) t := fun t kt => by
    refine pre0 _ ?_
    show Steps p.tables e below (s₁.setTop (mkF m 0 #[rv b407, iv (1 : Int32)] [])) _
    refine XS.iloadN X0.here hx rfl (hb hby d8_0) rfl ?_
    show Steps p.tables e below (s₁.setTop (mkF m 1 #[rv b407, iv (1 : Int32)] [(.int (1 : Int32))])) _
    refine XS.aloadN X0.here hx rfl (hb hby d8_1) rfl rfl ?_
    exact kt
  obtain ⟨T748, X748, e748, st748⟩ := getF X0 hx hZ hown (host := "") (Or.inl (W 19 rfl)) Via.refl e0 Fi2 (g := (mkF m 2 #[rv b407, iv (1 : Int32)] [(.ref b407), (.int (1 : Int32))])) rfl rfl (hb hby d8_2)
  have pre749 : ∀ t, Steps p.tables e below (T748.setTop (mkF m 5 #[rv b407, iv (1 : Int32)] [(.int (2 : Int32)), (.int (1 : Int32))])) t → Steps p.tables e below (s₁.setTop (entryFrame m #[(.ref b407), (.int (1 : Int32))] 2)) t := fun t kt => pre747 _ (st748 _ kt)
  obtain ⟨_, _, ⟨T750, L750, k750, n750⟩, -, X750, ⟨Lc750, hQ750, l750, y750, z750⟩, st750⟩ := Jvm.LawKit.callS X748 hx (y := (⟨"java/util/Objects", "checkIndex", "(II)I"⟩ : MethodName)) hown (mvT hZ (W 29 rfl)) (mvT hZ (W 30 rfl)) (mvT hZ (W 31 rfl)) (mvT hZ (W 32 rfl)) (by decide) (backOf (W := 0) (rm_checkIndex5_2 l Z a0 hw [] h0 n0 O0) hZ (W 32 rfl) (W 31 rfl) (by decide) (by decide)) (g := (mkF m 5 #[rv b407, iv (1 : Int32)] [(.int (2 : Int32)), (.int (1 : Int32))])) rfl (by rw [hml]; rfl) (argsL := [(.int (1 : Int32)), (.int (2 : Int32))]) (rest := []) (lenOf pd_12 rfl) rfl (by show 2 * 0 + _ ≤ _; exact Nat.le_of_eq rfl) (hb hby d8_5) (fun _ _ => ⟨rfl, e748, (by decide : 0 + 0 ≤ _), (by decide : 0 + 0 ≤ _)⟩)
  dsimp only [Pt.U, Pt.locs, Pt.cells, Pt.slots] at X750 l750 y750 z750 st750 hQ750
  replace l750 := l750.symm
  replace y750 : 0 = k750 := y750.symm
  replace z750 : 0 = n750 := z750.symm
  subst l750 y750 z750
  obtain ⟨rfl, M750, e750⟩ := hQ750
  have N750 := Fr.app N0 M750
  have pre751 : ∀ t, Steps p.tables e below (T750.setTop (mkF m 8 #[rv b407, iv (1 : Int32)] [(.int (1 : Int32))])) t → Steps p.tables e below (s₁.setTop (entryFrame m #[(.ref b407), (.int (1 : Int32))] 2)) t := fun t kt => pre749 _ (st750 _ kt)
  have pre752 : ∀ t, Steps p.tables e below (T750.setTop (mkF m 10 #[rv b407, iv (1 : Int32)] [(.ref b407)])) t → Steps p.tables e below (s₁.setTop (entryFrame m #[(.ref b407), (.int (1 : Int32))] 2)) t := fun t kt => by
    refine pre751 _ ?_
    show Steps p.tables e below (T750.setTop (mkF m 8 #[rv b407, iv (1 : Int32)] [(.int (1 : Int32))])) _
    refine XS.pop X750.here hx rfl (hb hby d8_8) rfl rfl ?_
    show Steps p.tables e below (T750.setTop (mkF m 9 #[rv b407, iv (1 : Int32)] [])) _
    refine XS.aloadN X750.here hx rfl (hb hby d8_9) rfl rfl ?_
    exact kt
  obtain ⟨T753, X753, e753, st753⟩ := getF X750 hx hZ hown (host := "") (Or.inl (W 12 rfl)) Via.refl e750 Fi1 (g := (mkF m 10 #[rv b407, iv (1 : Int32)] [(.ref b407)])) rfl rfl (hb hby d8_10)
  have pre754 : ∀ t, Steps p.tables e below (T753.setTop (mkF m 13 #[rv b407, iv (1 : Int32)] [(.ref b51_413)])) t → Steps p.tables e below (s₁.setTop (entryFrame m #[(.ref b407), (.int (1 : Int32))] 2)) t := fun t kt => pre752 _ (st753 _ kt)
  have pre756 : ∀ t, Steps p.tables e below (T753.setTop (mkF m 17 #[rv b407, iv (1 : Int32)] [(.int (0 : Int32)), (.ref b51_413)])) t → Steps p.tables e below (s₁.setTop (entryFrame m #[(.ref b407), (.int (1 : Int32))] 2)) t := fun t kt => by
    refine pre754 _ ?_
    show Steps p.tables e below (T753.setTop (mkF m 13 #[rv b407, iv (1 : Int32)] [(.ref b51_413)])) _
    refine XS.iloadN X753.here hx rfl (hb hby d8_13) rfl ?_
    show Steps p.tables e below (T753.setTop (mkF m 14 #[rv b407, iv (1 : Int32)] [(.int (1 : Int32)), (.ref b51_413)])) _
    refine X753.ldcInt hx hown (mvT hZ (W 21 rfl)) (g := (mkF m 14 #[rv b407, iv (1 : Int32)] [(.int (1 : Int32)), (.ref b51_413)])) rfl (hb hby d8_14) _ ?_
    show Steps p.tables e below (T753.setTop (mkF m 16 #[rv b407, iv (1 : Int32)] [(.int (65536 : Int32)), (.int (1 : Int32)), (.ref b51_413)])) _
    refine XS.idiv X753.here hx rfl (hb hby d8_16) rfl (by decide) ?_
    show  Steps p.tables e below (T753.setTop (mkF m 17 #[rv b407, iv (1 : Int32)] [(.int ((1 : Int32) / (65536 : Int32))), (.ref b51_413)])) _
    rw [(by decide : (((1 : Int32) / (65536 : Int32)) : Int32) = (0 : Int32))]
    exact kt
  obtain ⟨c755, Ar755, q755, S755, M755, H755, G755⟩ := id Fi0
  have i755 : ¬ ((0 : Int32) < 0 ∨ c755.slots.size ≤ ((0 : Int32)).toNatClampNeg) := inb_of S755 ⟨by decide, by decide⟩
  have t755 : c755.slots[((0 : Int32)).toNatClampNeg]? = some (.ref b221_416) := Has.at H755 i755 rfl
  have pre758 : ∀ t, Steps p.tables e below (T753.setTop (mkF m 22 #[rv b407, iv (1 : Int32)] [(.int (1 : Int32)), (.ref b221_416)])) t → Steps p.tables e below (s₁.setTop (entryFrame m #[(.ref b407), (.int (1 : Int32))] 2)) t := fun t kt => by
    refine pre756 _ ?_
    show Steps p.tables e below (T753.setTop (mkF m 17 #[rv b407, iv (1 : Int32)] [(.int (0 : Int32)), (.ref b51_413)])) _
    refine X753.aaload hx (j := (0 : Int32)) (v := (.ref b221_416)) (by rw [e753]; exact Ar755.1) (State.isArrayOf_alike hZ.alike Ar755.2.1) rfl Ar755.2.2 i755 t755 (g := (mkF m 17 #[rv b407, iv (1 : Int32)] [(.int (0 : Int32)), (.ref b51_413)])) rfl rfl (hb hby d8_17) _ ?_
    show Steps p.tables e below (T753.setTop (mkF m 18 #[rv b407, iv (1 : Int32)] [(.ref b221_416)])) _
    refine XS.iloadN X753.here hx rfl (hb hby d8_18) rfl ?_
    show Steps p.tables e below (T753.setTop (mkF m 19 #[rv b407, iv (1 : Int32)] [(.int (1 : Int32)), (.ref b221_416)])) _
    refine X753.ldcInt hx hown (mvT hZ (W 21 rfl)) (g := (mkF m 19 #[rv b407, iv (1 : Int32)] [(.int (1 : Int32)), (.ref b221_416)])) rfl (hb hby d8_19) _ ?_
    show Steps p.tables e below (T753.setTop (mkF m 21 #[rv b407, iv (1 : Int32)] [(.int (65536 : Int32)), (.int (1 : Int32)), (.ref b221_416)])) _
    refine XS.irem X753.here hx rfl (hb hby d8_21) rfl (by decide) ?_
    show  Steps p.tables e below (T753.setTop (mkF m 22 #[rv b407, iv (1 : Int32)] [(.int ((1 : Int32) - ((1 : Int32) / (65536 : Int32)) * (65536 : Int32))), (.ref b221_416)])) _
    rw [(by decide : (((1 : Int32) - ((1 : Int32) / (65536 : Int32)) * (65536 : Int32)) : Int32) = (1 : Int32))]
    exact kt
  obtain ⟨c757, Ar757, q757, S757, M757, H757, G757⟩ := id Fi3
  have i757 : ¬ ((1 : Int32) < 0 ∨ c757.slots.size ≤ ((1 : Int32)).toNatClampNeg) := inb_of S757 ⟨by decide, by decide⟩
  have t757 : c757.slots[((1 : Int32)).toNatClampNeg]? = some (.int p1) := Has.at H757 i757 rfl
  have pre759 : ∀ t, Steps p.tables e below (T753.setTop (mkF m 23 #[rv b407, iv (1 : Int32)] [(.int p1)])) t → Steps p.tables e below (s₁.setTop (entryFrame m #[(.ref b407), (.int (1 : Int32))] 2)) t := fun t kt => by
    refine pre758 _ ?_
    show Steps p.tables e below (T753.setTop (mkF m 22 #[rv b407, iv (1 : Int32)] [(.int (1 : Int32)), (.ref b221_416)])) _
    refine X753.iaload hx (j := (1 : Int32)) (v := (.int p1)) (by rw [e753]; exact Ar757.1) (State.isArrayOf_alike hZ.alike Ar757.2.1) Ar757.2.2 i757 t757 (g := (mkF m 22 #[rv b407, iv (1 : Int32)] [(.int (1 : Int32)), (.ref b221_416)])) rfl rfl (hb hby d8_22) _ ?_
    exact kt
  obtain ⟨fs, hr, hrun, hended, hW, hsame⟩ := X753.leave (v := some (.int p1)) (fun h => by rw [Bd.returns] at h; cases h)
  refine ⟨_, _, pre759 _ (retI X753 hx Bd.returns (hb hby d8_23) hr), hrun, hended, _, _, rfl, ?_, ⟨_, rfl⟩, hW, hsame.mono (by decide) (by decide)⟩
  show Q_get8_2 Z b407 k51_413 b51_413 b221_416 p5 p1 k221_416 h0 n0 _ T753.heap _
  rw [e753]
  exact ⟨rfl, N750, rfl⟩
def Q_set4_2 (Z : State) (b407 : Addr) (p5 : Int32) (k51_413 : ClassId) (b51_413 : Addr) (b221_416 : Addr) (p0 : Int32) (p1 : Int32) (k221_416 : ClassId) (h0 : Heap) (n0 : Nat) (v : Option Value) (h : Heap) (L : List Loc) : Prop := v = none ∧ Fr n0 L ∧ Keep h0 h [b221_416] ∧ Old Z n0 h ∧ Exa Z h b221_416 "[I" ∧ Arv Z h b221_416 k221_416 .int (16 : Int32) [(.int p0), (.int p5), (.int (0 : Int32)), (.int (0 : Int32)), (.int (0 : Int32)), (.int (0 : Int32)), (.int (0 : Int32)), (.int (0 : Int32)), (.int (0 : Int32)), (.int (0 : Int32)), (.int (0 : Int32)), (.int (0 : Int32)), (.int (0 : Int32)), (.int (0 : Int32)), (.int (0 : Int32)), (.int (0 : Int32))] (.int (0 : Int32))
set_option maxRecDepth 65536 in
set_option maxHeartbeats 40000000 in
theorem rm_set4_2 (l : Launch) (Z : State) (a0 : Array Value) (hw : ∀ d ∈ tables_1, d.before a0 Z = true) (ws : List Jvm.Cond) (b407 : Addr) (p5 : Int32) (k51_413 : ClassId) (b51_413 : Addr) (b221_416 : Addr) (p0 : Int32) (p1 : Int32) (k221_416 : ClassId) (h0 : Heap) (n0 : Nat) (O0 : Old Z n0 h0) (g_b221_416 : n0 ≤ b221_416) (Fi0 : Arv Z h0 b51_413 k51_413 (.array .int) (1 : Int32) [(.ref b221_416)] .null) (Fi1 : Fld Z h0 b407 "org/reachwatch/IntBlocks" "blocks" "[[I" (.ref b51_413)) (Fi2 : Exa Z h0 b221_416 "[I") (Fi3 : Arv Z h0 b221_416 k221_416 .int (16 : Int32) [(.int p0), (.int p1), (.int (0 : Int32)), (.int (0 : Int32)), (.int (0 : Int32)), (.int (0 : Int32)), (.int (0 : Int32)), (.int (0 : Int32)), (.int (0 : Int32)), (.int (0 : Int32)), (.int (0 : Int32)), (.int (0 : Int32)), (.int (0 : Int32)), (.int (0 : Int32)), (.int (0 : Int32)), (.int (0 : Int32))] (.int (0 : Int32))) (Fi4 : Fld Z h0 b407 "org/reachwatch/IntBlocks" "size" "I" (.int (2 : Int32))) (q0 : ¬ (b221_416 = b407)) (q1 : ¬ (b221_416 = b51_413)) :
    MetFree l (⟨"org/reachwatch/IntBlocks", "set", "(II)V"⟩ : MethodName) (head1 (Jvm.Cond.code (⟨"org/reachwatch/IntBlocks", "set", "(II)V"⟩ : MethodName) prog_56_method_4_code 3 none :: ws) ({ frames := 2, cells := 0, slots := 0, locals := 27 } : Room)) (fun a U => a = #[(.ref b407), (.int (1 : Int32)), (.int p5)] ∧ Z.Warmed39 U.vm ∧ U.heap = h0) (fun _ _ _ _ _ => True) (fun _ U o U' => ∃ v L, o = .returned v ∧ Q_set4_2 Z b407 p5 k51_413 b51_413 b221_416 p0 p1 k221_416 h0 n0 v U'.heap L ∧ FrameEnd U o U' L ({ frames := 2, cells := 0, slots := 0, locals := 27 } : Room).cells ({ frames := 2, cells := 0, slots := 0, locals := 27 } : Room).slots) := by
  refine MetFree.of_bodySF (plainFor_of_name pn_2) hisR ?_
  intro p e s m args below meth c s₁ Bd hml0 hP hK
  have W := fun {d : Jvm.Cond} (i : Nat) (q : tables_1[i]? = some d) => hw d (List.mem_of_getElem? q)
  obtain ⟨rfl, hZ, hh⟩ := hP
  have hx := Bd.exec
  have hby := Bd.bytes
  have hml : c.maxLocals = 3 := hml0
  have hown : s.vm.findClass "org/reachwatch/IntBlocks" = some m.cls := findClass_of_methodNamed Bd.named
  have hnm := (name_of_methodNamed Bd.named Bd.method).1
  have X0 : Stand p l e ({ frames := 2, cells := 0, slots := 0, locals := 27 } : Room) s m #[(.ref b407), (.int (1 : Int32)), (.int p5)] below meth c s₁ [] 0 0 := Stand.of_body Bd
  have e0 : s₁.heap = h0 := by rw [← hh, Bd.state]; rfl
  have N0 := Fr.nil n0
  have pre0 : ∀ t, Steps p.tables e below (s₁.setTop (mkF m 0 #[rv b407, iv (1 : Int32), iv p5] [])) t → Steps p.tables e below (s₁.setTop (entryFrame m #[(.ref b407), (.int (1 : Int32)), (.int p5)] 3)) t := fun t k => castTop (ef_13 m b407 (1 : Int32) p5) k
  have K0 : Keep h0 h0 [b221_416] := Keep.refl h0 [b221_416]
  have pre804 : ∀ t, Steps p.tables e below (s₁.setTop (mkF m 2 #[rv b407, iv (1 : Int32), iv p5] [(.ref b407), (.int (1 : Int32))])) t → Steps p.tables e below (s₁.setTop (entryFrame m #[(.ref b407), (.int (1 : Int32)), (.int p5)] 3)) t := fun t kt => by
    refine pre0 _ ?_
    show Steps p.tables e below (s₁.setTop (mkF m 0 #[rv b407, iv (1 : Int32), iv p5] [])) _
    refine XS.iloadN X0.here hx rfl (hb hby d4_0) rfl ?_
    show Steps p.tables e below (s₁.setTop (mkF m 1 #[rv b407, iv (1 : Int32), iv p5] [(.int (1 : Int32))])) _
    refine XS.aloadN X0.here hx rfl (hb hby d4_1) rfl rfl ?_
    exact kt
  obtain ⟨T805, X805, e805, st805⟩ := getF X0 hx hZ hown (host := "") (Or.inl (W 19 rfl)) Via.refl e0 Fi4 (g := (mkF m 2 #[rv b407, iv (1 : Int32), iv p5] [(.ref b407), (.int (1 : Int32))])) rfl rfl (hb hby d4_2)
  have pre806 : ∀ t, Steps p.tables e below (T805.setTop (mkF m 5 #[rv b407, iv (1 : Int32), iv p5] [(.int (2 : Int32)), (.int (1 : Int32))])) t → Steps p.tables e below (s₁.setTop (entryFrame m #[(.ref b407), (.int (1 : Int32)), (.int p5)] 3)) t := fun t kt => pre804 _ (st805 _ kt)
  obtain ⟨_, _, ⟨T807, L807, k807, n807⟩, -, X807, ⟨Lc807, hQ807, l807, y807, z807⟩, st807⟩ := Jvm.LawKit.callS X805 hx (y := (⟨"java/util/Objects", "checkIndex", "(II)I"⟩ : MethodName)) hown (mvT hZ (W 29 rfl)) (mvT hZ (W 30 rfl)) (mvT hZ (W 31 rfl)) (mvT hZ (W 32 rfl)) (by decide) (backOf (W := 0) (rm_checkIndex5_2 l Z a0 hw [] h0 n0 O0) hZ (W 32 rfl) (W 31 rfl) (by decide) (by decide)) (g := (mkF m 5 #[rv b407, iv (1 : Int32), iv p5] [(.int (2 : Int32)), (.int (1 : Int32))])) rfl (by rw [hml]; rfl) (argsL := [(.int (1 : Int32)), (.int (2 : Int32))]) (rest := []) (lenOf pd_12 rfl) rfl (by show 2 * 0 + _ ≤ _; exact Nat.le_of_eq rfl) (hb hby d4_5) (fun _ _ => ⟨rfl, e805, (by decide : 0 + 0 ≤ _), (by decide : 0 + 0 ≤ _)⟩)
  dsimp only [Pt.U, Pt.locs, Pt.cells, Pt.slots] at X807 l807 y807 z807 st807 hQ807
  replace l807 := l807.symm
  replace y807 : 0 = k807 := y807.symm
  replace z807 : 0 = n807 := z807.symm
  subst l807 y807 z807
  obtain ⟨rfl, M807, e807⟩ := hQ807
  have N807 := Fr.app N0 M807
  have pre808 : ∀ t, Steps p.tables e below (T807.setTop (mkF m 8 #[rv b407, iv (1 : Int32), iv p5] [(.int (1 : Int32))])) t → Steps p.tables e below (s₁.setTop (entryFrame m #[(.ref b407), (.int (1 : Int32)), (.int p5)] 3)) t := fun t kt => pre806 _ (st807 _ kt)
  have pre809 : ∀ t, Steps p.tables e below (T807.setTop (mkF m 10 #[rv b407, iv (1 : Int32), iv p5] [(.ref b407)])) t → Steps p.tables e below (s₁.setTop (entryFrame m #[(.ref b407), (.int (1 : Int32)), (.int p5)] 3)) t := fun t kt => by
    refine pre808 _ ?_
    show Steps p.tables e below (T807.setTop (mkF m 8 #[rv b407, iv (1 : Int32), iv p5] [(.int (1 : Int32))])) _
    refine XS.pop X807.here hx rfl (hb hby d4_8) rfl rfl ?_
    show Steps p.tables e below (T807.setTop (mkF m 9 #[rv b407, iv (1 : Int32), iv p5] [])) _
    refine XS.aloadN X807.here hx rfl (hb hby d4_9) rfl rfl ?_
    exact kt
  obtain ⟨T810, X810, e810, st810⟩ := getF X807 hx hZ hown (host := "") (Or.inl (W 12 rfl)) Via.refl e807 Fi1 (g := (mkF m 10 #[rv b407, iv (1 : Int32), iv p5] [(.ref b407)])) rfl rfl (hb hby d4_10)
  have pre811 : ∀ t, Steps p.tables e below (T810.setTop (mkF m 13 #[rv b407, iv (1 : Int32), iv p5] [(.ref b51_413)])) t → Steps p.tables e below (s₁.setTop (entryFrame m #[(.ref b407), (.int (1 : Int32)), (.int p5)] 3)) t := fun t kt => pre809 _ (st810 _ kt)
  have pre813 : ∀ t, Steps p.tables e below (T810.setTop (mkF m 17 #[rv b407, iv (1 : Int32), iv p5] [(.int (0 : Int32)), (.ref b51_413)])) t → Steps p.tables e below (s₁.setTop (entryFrame m #[(.ref b407), (.int (1 : Int32)), (.int p5)] 3)) t := fun t kt => by
    refine pre811 _ ?_
    show Steps p.tables e below (T810.setTop (mkF m 13 #[rv b407, iv (1 : Int32), iv p5] [(.ref b51_413)])) _
    refine XS.iloadN X810.here hx rfl (hb hby d4_13) rfl ?_
    show Steps p.tables e below (T810.setTop (mkF m 14 #[rv b407, iv (1 : Int32), iv p5] [(.int (1 : Int32)), (.ref b51_413)])) _
    refine X810.ldcInt hx hown (mvT hZ (W 21 rfl)) (g := (mkF m 14 #[rv b407, iv (1 : Int32), iv p5] [(.int (1 : Int32)), (.ref b51_413)])) rfl (hb hby d4_14) _ ?_
    show Steps p.tables e below (T810.setTop (mkF m 16 #[rv b407, iv (1 : Int32), iv p5] [(.int (65536 : Int32)), (.int (1 : Int32)), (.ref b51_413)])) _
    refine XS.idiv X810.here hx rfl (hb hby d4_16) rfl (by decide) ?_
    show  Steps p.tables e below (T810.setTop (mkF m 17 #[rv b407, iv (1 : Int32), iv p5] [(.int ((1 : Int32) / (65536 : Int32))), (.ref b51_413)])) _
    rw [(by decide : (((1 : Int32) / (65536 : Int32)) : Int32) = (0 : Int32))]
    exact kt
  obtain ⟨c812, Ar812, q812, S812, M812, H812, G812⟩ := id Fi0
  have i812 : ¬ ((0 : Int32) < 0 ∨ c812.slots.size ≤ ((0 : Int32)).toNatClampNeg) := inb_of S812 ⟨by decide, by decide⟩
  have t812 : c812.slots[((0 : Int32)).toNatClampNeg]? = some (.ref b221_416) := Has.at H812 i812 rfl
  have pre814 : ∀ t, Steps p.tables e below (T810.setTop (mkF m 23 #[rv b407, iv (1 : Int32), iv p5] [(.int p5), (.int (1 : Int32)), (.ref b221_416)])) t → Steps p.tables e below (s₁.setTop (entryFrame m #[(.ref b407), (.int (1 : Int32)), (.int p5)] 3)) t := fun t kt => by
    refine pre813 _ ?_
    show Steps p.tables e below (T810.setTop (mkF m 17 #[rv b407, iv (1 : Int32), iv p5] [(.int (0 : Int32)), (.ref b51_413)])) _
    refine X810.aaload hx (j := (0 : Int32)) (v := (.ref b221_416)) (by rw [e810]; exact Ar812.1) (State.isArrayOf_alike hZ.alike Ar812.2.1) rfl Ar812.2.2 i812 t812 (g := (mkF m 17 #[rv b407, iv (1 : Int32), iv p5] [(.int (0 : Int32)), (.ref b51_413)])) rfl rfl (hb hby d4_17) _ ?_
    show Steps p.tables e below (T810.setTop (mkF m 18 #[rv b407, iv (1 : Int32), iv p5] [(.ref b221_416)])) _
    refine XS.iloadN X810.here hx rfl (hb hby d4_18) rfl ?_
    show Steps p.tables e below (T810.setTop (mkF m 19 #[rv b407, iv (1 : Int32), iv p5] [(.int (1 : Int32)), (.ref b221_416)])) _
    refine X810.ldcInt hx hown (mvT hZ (W 21 rfl)) (g := (mkF m 19 #[rv b407, iv (1 : Int32), iv p5] [(.int (1 : Int32)), (.ref b221_416)])) rfl (hb hby d4_19) _ ?_
    show Steps p.tables e below (T810.setTop (mkF m 21 #[rv b407, iv (1 : Int32), iv p5] [(.int (65536 : Int32)), (.int (1 : Int32)), (.ref b221_416)])) _
    refine XS.irem X810.here hx rfl (hb hby d4_21) rfl (by decide) ?_
    show  Steps p.tables e below (T810.setTop (mkF m 22 #[rv b407, iv (1 : Int32), iv p5] [(.int ((1 : Int32) - ((1 : Int32) / (65536 : Int32)) * (65536 : Int32))), (.ref b221_416)])) _
    rw [(by decide : (((1 : Int32) - ((1 : Int32) / (65536 : Int32)) * (65536 : Int32)) : Int32) = (1 : Int32))]
    show Steps p.tables e below (T810.setTop (mkF m 22 #[rv b407, iv (1 : Int32), iv p5] [(.int (1 : Int32)), (.ref b221_416)])) _
    refine XS.iloadN X810.here hx rfl (hb hby d4_22) rfl ?_
    exact kt
  obtain ⟨c815, Ar815, q815, S815, M815, H815, G815⟩ := id Fi3
  have i815 : ¬ ((1 : Int32) < 0 ∨ c815.slots.size ≤ ((1 : Int32)).toNatClampNeg) := inb_of S815 ⟨by decide, by decide⟩
  obtain ⟨T816, h816, X816, e816, W816, st816⟩ := stI X810 hx hZ e810 Ar815 (j := (1 : Int32)) i815 (g := (mkF m 23 #[rv b407, iv (1 : Int32), iv p5] [(.int p5), (.int (1 : Int32)), (.ref b221_416)])) rfl rfl (hb hby d4_23)
  have pre817 : ∀ t, Steps p.tables e below (T816.setTop (mkF m 24 #[rv b407, iv (1 : Int32), iv p5] [])) t → Steps p.tables e below (s₁.setTop (entryFrame m #[(.ref b407), (.int (1 : Int32)), (.int p5)] 3)) t := fun t kt => pre814 _ (st816 _ kt)
  have N816 := Fr.snoc X816 N807 g_b221_416
  have O816 := O0.wr W816 g_b221_416
  have K816 : Keep h0 h816 [b221_416] := K0.wr W816 (Or.inl (List.mem_of_getElem? (i := 0) rfl))
  have F818 := Fi0.other W816 (fun q => q1 q.symm)
  have F819 := Fi1.other W816 (Or.inl (fun q => q0 q.symm))
  have F820 := Fi2.wr W816
  have F821 := Fi4.other W816 (Or.inl (fun q => q0 q.symm))
  have F822 : Arv Z h816 b221_416 k221_416 .int (16 : Int32) [(.int p0), (.int p5), (.int (0 : Int32)), (.int (0 : Int32)), (.int (0 : Int32)), (.int (0 : Int32)), (.int (0 : Int32)), (.int (0 : Int32)), (.int (0 : Int32)), (.int (0 : Int32)), (.int (0 : Int32)), (.int (0 : Int32)), (.int (0 : Int32)), (.int (0 : Int32)), (.int (0 : Int32)), (.int (0 : Int32))] (.int (0 : Int32)) := Arv.set Ar815 q815 S815 M815 H815 G815 rfl W816 1 rfl (Nat.le_of_ble_eq_true rfl)
  obtain ⟨fs, hr, hrun, hended, hW, hsame⟩ := X816.leave (v := none) (fun _ => rfl)
  refine ⟨_, _, pre817 _ (X816.returnOut hx Bd.returns (hb hby d4_24) hr), hrun, hended, _, _, rfl, ?_, ⟨_, rfl⟩, hW, hsame.mono (by decide) (by decide)⟩
  show Q_set4_2 Z b407 p5 k51_413 b51_413 b221_416 p0 p1 k221_416 h0 n0 _ T816.heap _
  rw [e816]
  exact ⟨rfl, N816, K816, O816, F820, F822⟩
def Q_add3_2 (Z : State) (b840 : Addr) (p2 : Int32) (k51_846 : ClassId) (b51_846 : Addr) (b221_849 : Addr) (p0 : Int32) (p1 : Int32) (k221_849 : ClassId) (h0 : Heap) (n0 : Nat) (v : Option Value) (h : Heap) (L : List Loc) : Prop := v = none ∧ Fr n0 L ∧ Keep h0 h [b840, b221_849] ∧ Old Z n0 h ∧ Exa Z h b840 "org/reachwatch/IntBlocks" ∧ Fld Z h b840 "org/reachwatch/IntBlocks" "blocks" "[[I" (.ref b51_846) ∧ Exa Z h b221_849 "[I" ∧ Arv Z h b221_849 k221_849 .int (16 : Int32) [(.int p0), (.int p1), (.int p2), (.int (0 : Int32)), (.int (0 : Int32)), (.int (0 : Int32)), (.int (0 : Int32)), (.int (0 : Int32)), (.int (0 : Int32)), (.int (0 : Int32)), (.int (0 : Int32)), (.int (0 : Int32)), (.int (0 : Int32)), (.int (0 : Int32)), (.int (0 : Int32)), (.int (0 : Int32))] (.int (0 : Int32)) ∧ Fld Z h b840 "org/reachwatch/IntBlocks" "size" "I" (.int (3 : Int32))
set_option maxRecDepth 65536 in
set_option maxHeartbeats 40000000 in
theorem rm_add3_2 (l : Launch) (Z : State) (a0 : Array Value) (hw : ∀ d ∈ tables_1, d.before a0 Z = true) (ws : List Jvm.Cond) (b840 : Addr) (p2 : Int32) (k51_846 : ClassId) (b51_846 : Addr) (b221_849 : Addr) (p0 : Int32) (p1 : Int32) (k221_849 : ClassId) (h0 : Heap) (n0 : Nat) (O0 : Old Z n0 h0) (g_b840 : n0 ≤ b840) (g_b221_849 : n0 ≤ b221_849) (Fi0 : Arv Z h0 b51_846 k51_846 (.array .int) (1 : Int32) [(.ref b221_849)] .null) (Fi1 : Exa Z h0 b840 "org/reachwatch/IntBlocks") (Fi2 : Fld Z h0 b840 "org/reachwatch/IntBlocks" "blocks" "[[I" (.ref b51_846)) (Fi3 : Exa Z h0 b221_849 "[I") (Fi4 : Arv Z h0 b221_849 k221_849 .int (16 : Int32) [(.int p0), (.int p1), (.int (0 : Int32)), (.int (0 : Int32)), (.int (0 : Int32)), (.int (0 : Int32)), (.int (0 : Int32)), (.int (0 : Int32)), (.int (0 : Int32)), (.int (0 : Int32)), (.int (0 : Int32)), (.int (0 : Int32)), (.int (0 : Int32)), (.int (0 : Int32)), (.int (0 : Int32)), (.int (0 : Int32))] (.int (0 : Int32))) (Fi5 : Fld Z h0 b840 "org/reachwatch/IntBlocks" "size" "I" (.int (2 : Int32))) (q0 : ¬ (b51_846 = b840)) (q1 : ¬ (b221_849 = b840)) (q2 : ¬ (b221_849 = b51_846)) :
    MetFree l (⟨"org/reachwatch/IntBlocks", "add", "(I)V"⟩ : MethodName) (head1 (Jvm.Cond.code (⟨"org/reachwatch/IntBlocks", "add", "(I)V"⟩ : MethodName) prog_56_method_2_code 4 none :: ws) ({ frames := 0, cells := 0, slots := 0, locals := 0 } : Room)) (fun a U => a = #[(.ref b840), (.int p2)] ∧ Z.Warmed39 U.vm ∧ U.heap = h0) (fun _ _ _ _ _ => True) (fun _ U o U' => ∃ v L, o = .returned v ∧ Q_add3_2 Z b840 p2 k51_846 b51_846 b221_849 p0 p1 k221_849 h0 n0 v U'.heap L ∧ FrameEnd U o U' L ({ frames := 0, cells := 0, slots := 0, locals := 0 } : Room).cells ({ frames := 0, cells := 0, slots := 0, locals := 0 } : Room).slots) := by
  refine MetFree.of_bodySF (plainFor_of_name pn_2) hisR ?_
  intro p e s m args below meth c s₁ Bd hml0 hP hK
  have W := fun {d : Jvm.Cond} (i : Nat) (q : tables_1[i]? = some d) => hw d (List.mem_of_getElem? q)
  obtain ⟨rfl, hZ, hh⟩ := hP
  have hx := Bd.exec
  have hby := Bd.bytes
  have hml : c.maxLocals = 4 := hml0
  have hown : s.vm.findClass "org/reachwatch/IntBlocks" = some m.cls := findClass_of_methodNamed Bd.named
  have hnm := (name_of_methodNamed Bd.named Bd.method).1
  have X0 : Stand p l e ({ frames := 0, cells := 0, slots := 0, locals := 0 } : Room) s m #[(.ref b840), (.int p2)] below meth c s₁ [] 0 0 := Stand.of_body Bd
  have e0 : s₁.heap = h0 := by rw [← hh, Bd.state]; rfl
  have N0 := Fr.nil n0
  have pre0 : ∀ t, Steps p.tables e below (s₁.setTop (mkF m 0 #[rv b840, iv p2, .unset, .unset] [])) t → Steps p.tables e below (s₁.setTop (entryFrame m #[(.ref b840), (.int p2)] 4)) t := fun t k => castTop (ef_5 m b840 p2) k
  have K0 : Keep h0 h0 [b840, b221_849] := Keep.refl h0 [b840, b221_849]
  have pre958 : ∀ t, Steps p.tables e below (s₁.setTop (mkF m 1 #[rv b840, iv p2, .unset, .unset] [(.ref b840)])) t → Steps p.tables e below (s₁.setTop (entryFrame m #[(.ref b840), (.int p2)] 4)) t := fun t kt => by
    refine pre0 _ ?_
    show Steps p.tables e below (s₁.setTop (mkF m 0 #[rv b840, iv p2, .unset, .unset] [])) _
    refine XS.aloadN X0.here hx rfl (hb hby d3_0) rfl rfl ?_
    exact kt
  obtain ⟨T959, X959, e959, st959⟩ := getF X0 hx hZ hown (host := "") (Or.inl (W 19 rfl)) Via.refl e0 Fi5 (g := (mkF m 1 #[rv b840, iv p2, .unset, .unset] [(.ref b840)])) rfl rfl (hb hby d3_1)
  have pre960 : ∀ t, Steps p.tables e below (T959.setTop (mkF m 4 #[rv b840, iv p2, .unset, .unset] [(.int (2 : Int32))])) t → Steps p.tables e below (s₁.setTop (entryFrame m #[(.ref b840), (.int p2)] 4)) t := fun t kt => pre958 _ (st959 _ kt)
  have pre961 : ∀ t, Steps p.tables e below (T959.setTop (mkF m 9 #[rv b840, iv p2, iv (0 : Int32), .unset] [(.ref b840)])) t → Steps p.tables e below (s₁.setTop (entryFrame m #[(.ref b840), (.int p2)] 4)) t := fun t kt => by
    refine pre960 _ ?_
    show Steps p.tables e below (T959.setTop (mkF m 4 #[rv b840, iv p2, .unset, .unset] [(.int (2 : Int32))])) _
    refine X959.ldcInt hx hown (mvT hZ (W 21 rfl)) (g := (mkF m 4 #[rv b840, iv p2, .unset, .unset] [(.int (2 : Int32))])) rfl (hb hby d3_4) _ ?_
    show Steps p.tables e below (T959.setTop (mkF m 6 #[rv b840, iv p2, .unset, .unset] [(.int (65536 : Int32)), (.int (2 : Int32))])) _
    refine XS.idiv X959.here hx rfl (hb hby d3_6) rfl (by decide) ?_
    show  Steps p.tables e below (T959.setTop (mkF m 7 #[rv b840, iv p2, .unset, .unset] [(.int ((2 : Int32) / (65536 : Int32)))])) _
    rw [(by decide : (((2 : Int32) / (65536 : Int32)) : Int32) = (0 : Int32))]
    show Steps p.tables e below (T959.setTop (mkF m 7 #[rv b840, iv p2, .unset, .unset] [(.int (0 : Int32))])) _
    refine XS.istoreN X959.here hx rfl (hb hby d3_7) rfl (l' := #[rv b840, iv p2, iv (0 : Int32), .unset]) rfl ?_
    show Steps p.tables e below (T959.setTop (mkF m 8 #[rv b840, iv p2, iv (0 : Int32), .unset] [])) _
    refine XS.aloadN X959.here hx rfl (hb hby d3_8) rfl rfl ?_
    exact kt
  obtain ⟨T962, X962, e962, st962⟩ := getF X959 hx hZ hown (host := "") (Or.inl (W 19 rfl)) Via.refl e959 Fi5 (g := (mkF m 9 #[rv b840, iv p2, iv (0 : Int32), .unset] [(.ref b840)])) rfl rfl (hb hby d3_9)
  have pre963 : ∀ t, Steps p.tables e below (T962.setTop (mkF m 12 #[rv b840, iv p2, iv (0 : Int32), .unset] [(.int (2 : Int32))])) t → Steps p.tables e below (s₁.setTop (entryFrame m #[(.ref b840), (.int p2)] 4)) t := fun t kt => pre961 _ (st962 _ kt)
  have pre964 : ∀ t, Steps p.tables e below (T962.setTop (mkF m 18 #[rv b840, iv p2, iv (0 : Int32), iv (2 : Int32)] [(.ref b840), (.int (0 : Int32))])) t → Steps p.tables e below (s₁.setTop (entryFrame m #[(.ref b840), (.int p2)] 4)) t := fun t kt => by
    refine pre963 _ ?_
    show Steps p.tables e below (T962.setTop (mkF m 12 #[rv b840, iv p2, iv (0 : Int32), .unset] [(.int (2 : Int32))])) _
    refine X962.ldcInt hx hown (mvT hZ (W 21 rfl)) (g := (mkF m 12 #[rv b840, iv p2, iv (0 : Int32), .unset] [(.int (2 : Int32))])) rfl (hb hby d3_12) _ ?_
    show Steps p.tables e below (T962.setTop (mkF m 14 #[rv b840, iv p2, iv (0 : Int32), .unset] [(.int (65536 : Int32)), (.int (2 : Int32))])) _
    refine XS.irem X962.here hx rfl (hb hby d3_14) rfl (by decide) ?_
    show  Steps p.tables e below (T962.setTop (mkF m 15 #[rv b840, iv p2, iv (0 : Int32), .unset] [(.int ((2 : Int32) - ((2 : Int32) / (65536 : Int32)) * (65536 : Int32)))])) _
    rw [(by decide : (((2 : Int32) - ((2 : Int32) / (65536 : Int32)) * (65536 : Int32)) : Int32) = (2 : Int32))]
    show Steps p.tables e below (T962.setTop (mkF m 15 #[rv b840, iv p2, iv (0 : Int32), .unset] [(.int (2 : Int32))])) _
    refine XS.istoreN X962.here hx rfl (hb hby d3_15) rfl (l' := #[rv b840, iv p2, iv (0 : Int32), iv (2 : Int32)]) rfl ?_
    show Steps p.tables e below (T962.setTop (mkF m 16 #[rv b840, iv p2, iv (0 : Int32), iv (2 : Int32)] [])) _
    refine XS.iloadN X962.here hx rfl (hb hby d3_16) rfl ?_
    show Steps p.tables e below (T962.setTop (mkF m 17 #[rv b840, iv p2, iv (0 : Int32), iv (2 : Int32)] [(.int (0 : Int32))])) _
    refine XS.aloadN X962.here hx rfl (hb hby d3_17) rfl rfl ?_
    exact kt
  obtain ⟨T965, X965, e965, st965⟩ := getF X962 hx hZ hown (host := "") (Or.inl (W 12 rfl)) Via.refl e962 Fi2 (g := (mkF m 18 #[rv b840, iv p2, iv (0 : Int32), iv (2 : Int32)] [(.ref b840), (.int (0 : Int32))])) rfl rfl (hb hby d3_18)
  have pre966 : ∀ t, Steps p.tables e below (T965.setTop (mkF m 21 #[rv b840, iv p2, iv (0 : Int32), iv (2 : Int32)] [(.ref b51_846), (.int (0 : Int32))])) t → Steps p.tables e below (s₁.setTop (entryFrame m #[(.ref b840), (.int p2)] 4)) t := fun t kt => pre964 _ (st965 _ kt)
  obtain ⟨c967, Ar967, -, S967, M967, -, -⟩ := id Fi0
  have pre968 : ∀ t, Steps p.tables e below (T965.setTop (mkF m 43 #[rv b840, iv p2, iv (0 : Int32), iv (2 : Int32)] [(.ref b840)])) t → Steps p.tables e below (s₁.setTop (entryFrame m #[(.ref b840), (.int p2)] 4)) t := fun t kt => by
    refine pre966 _ ?_
    show Steps p.tables e below (T965.setTop (mkF m 21 #[rv b840, iv p2, iv (0 : Int32), iv (2 : Int32)] [(.ref b51_846), (.int (0 : Int32))])) _
    refine X965.arraylength hx (by rw [e965]; exact Ar967.1) (State.isArrayOf_alike hZ.alike Ar967.2.1) (g := (mkF m 21 #[rv b840, iv p2, iv (0 : Int32), iv (2 : Int32)] [(.ref b51_846), (.int (0 : Int32))])) rfl rfl (hb hby d3_21) _ ?_
    rw [len_of S967 M967]
    show Steps p.tables e below (T965.setTop (mkF m 22 #[rv b840, iv p2, iv (0 : Int32), iv (2 : Int32)] [(.int (1 : Int32)), (.int (0 : Int32))])) _
    refine XS.icmpYes X965.here hx rfl (pc0 := 22) (pc' := 42) rfl (hb hby d3_22) rfl (XT.ii_ne_t (by decide)) (by decide) (by decide) ?_
    show Steps p.tables e below (T965.setTop (mkF m 42 #[rv b840, iv p2, iv (0 : Int32), iv (2 : Int32)] [])) _
    refine XS.aloadN X965.here hx rfl (hb hby d3_42) rfl rfl ?_
    exact kt
  obtain ⟨T969, X969, e969, st969⟩ := getF X965 hx hZ hown (host := "") (Or.inl (W 12 rfl)) Via.refl e965 Fi2 (g := (mkF m 43 #[rv b840, iv p2, iv (0 : Int32), iv (2 : Int32)] [(.ref b840)])) rfl rfl (hb hby d3_43)
  have pre970 : ∀ t, Steps p.tables e below (T969.setTop (mkF m 46 #[rv b840, iv p2, iv (0 : Int32), iv (2 : Int32)] [(.ref b51_846)])) t → Steps p.tables e below (s₁.setTop (entryFrame m #[(.ref b840), (.int p2)] 4)) t := fun t kt => pre968 _ (st969 _ kt)
  have pre972 : ∀ t, Steps p.tables e below (T969.setTop (mkF m 47 #[rv b840, iv p2, iv (0 : Int32), iv (2 : Int32)] [(.int (0 : Int32)), (.ref b51_846)])) t → Steps p.tables e below (s₁.setTop (entryFrame m #[(.ref b840), (.int p2)] 4)) t := fun t kt => by
    refine pre970 _ ?_
    show Steps p.tables e below (T969.setTop (mkF m 46 #[rv b840, iv p2, iv (0 : Int32), iv (2 : Int32)] [(.ref b51_846)])) _
    refine XS.iloadN X969.here hx rfl (hb hby d3_46) rfl ?_
    exact kt
  obtain ⟨c971, Ar971, q971, S971, M971, H971, G971⟩ := id Fi0
  have i971 : ¬ ((0 : Int32) < 0 ∨ c971.slots.size ≤ ((0 : Int32)).toNatClampNeg) := inb_of S971 ⟨by decide, by decide⟩
  have t971 : c971.slots[((0 : Int32)).toNatClampNeg]? = some (.ref b221_849) := Has.at H971 i971 rfl
  have pre973 : ∀ t, Steps p.tables e below (T969.setTop (mkF m 75 #[rv b840, iv p2, iv (0 : Int32), iv (2 : Int32)] [(.ref b840), (.int (2 : Int32))])) t → Steps p.tables e below (s₁.setTop (entryFrame m #[(.ref b840), (.int p2)] 4)) t := fun t kt => by
    refine pre972 _ ?_
    show Steps p.tables e below (T969.setTop (mkF m 47 #[rv b840, iv p2, iv (0 : Int32), iv (2 : Int32)] [(.int (0 : Int32)), (.ref b51_846)])) _
    refine X969.aaload hx (j := (0 : Int32)) (v := (.ref b221_849)) (by rw [e969]; exact Ar971.1) (State.isArrayOf_alike hZ.alike Ar971.2.1) rfl Ar971.2.2 i971 t971 (g := (mkF m 47 #[rv b840, iv p2, iv (0 : Int32), iv (2 : Int32)] [(.int (0 : Int32)), (.ref b51_846)])) rfl rfl (hb hby d3_47) _ ?_
    show Steps p.tables e below (T969.setTop (mkF m 48 #[rv b840, iv p2, iv (0 : Int32), iv (2 : Int32)] [(.ref b221_849)])) _
    refine XS.ifnonnullYes X969.here hx rfl (pc0 := 48) (pc' := 73) rfl (hb hby d3_48) rfl (by decide) (by decide) ?_
    show Steps p.tables e below (T969.setTop (mkF m 73 #[rv b840, iv p2, iv (0 : Int32), iv (2 : Int32)] [])) _
    refine XS.iloadN X969.here hx rfl (hb hby d3_73) rfl ?_
    show Steps p.tables e below (T969.setTop (mkF m 74 #[rv b840, iv p2, iv (0 : Int32), iv (2 : Int32)] [(.int (2 : Int32))])) _
    refine XS.aloadN X969.here hx rfl (hb hby d3_74) rfl rfl ?_
    exact kt
  obtain ⟨T974, X974, e974, st974⟩ := getF X969 hx hZ hown (host := "") (Or.inl (W 12 rfl)) Via.refl e969 Fi2 (g := (mkF m 75 #[rv b840, iv p2, iv (0 : Int32), iv (2 : Int32)] [(.ref b840), (.int (2 : Int32))])) rfl rfl (hb hby d3_75)
  have pre975 : ∀ t, Steps p.tables e below (T974.setTop (mkF m 78 #[rv b840, iv p2, iv (0 : Int32), iv (2 : Int32)] [(.ref b51_846), (.int (2 : Int32))])) t → Steps p.tables e below (s₁.setTop (entryFrame m #[(.ref b840), (.int p2)] 4)) t := fun t kt => pre973 _ (st974 _ kt)
  have pre977 : ∀ t, Steps p.tables e below (T974.setTop (mkF m 79 #[rv b840, iv p2, iv (0 : Int32), iv (2 : Int32)] [(.int (0 : Int32)), (.ref b51_846), (.int (2 : Int32))])) t → Steps p.tables e below (s₁.setTop (entryFrame m #[(.ref b840), (.int p2)] 4)) t := fun t kt => by
    refine pre975 _ ?_
    show Steps p.tables e below (T974.setTop (mkF m 78 #[rv b840, iv p2, iv (0 : Int32), iv (2 : Int32)] [(.ref b51_846), (.int (2 : Int32))])) _
    refine XS.iloadN X974.here hx rfl (hb hby d3_78) rfl ?_
    exact kt
  obtain ⟨c976, Ar976, q976, S976, M976, H976, G976⟩ := id Fi0
  have i976 : ¬ ((0 : Int32) < 0 ∨ c976.slots.size ≤ ((0 : Int32)).toNatClampNeg) := inb_of S976 ⟨by decide, by decide⟩
  have t976 : c976.slots[((0 : Int32)).toNatClampNeg]? = some (.ref b221_849) := Has.at H976 i976 rfl
  have pre979 : ∀ t, Steps p.tables e below (T974.setTop (mkF m 80 #[rv b840, iv p2, iv (0 : Int32), iv (2 : Int32)] [(.ref b221_849), (.int (2 : Int32))])) t → Steps p.tables e below (s₁.setTop (entryFrame m #[(.ref b840), (.int p2)] 4)) t := fun t kt => by
    refine pre977 _ ?_
    show Steps p.tables e below (T974.setTop (mkF m 79 #[rv b840, iv p2, iv (0 : Int32), iv (2 : Int32)] [(.int (0 : Int32)), (.ref b51_846), (.int (2 : Int32))])) _
    refine X974.aaload hx (j := (0 : Int32)) (v := (.ref b221_849)) (by rw [e974]; exact Ar976.1) (State.isArrayOf_alike hZ.alike Ar976.2.1) rfl Ar976.2.2 i976 t976 (g := (mkF m 79 #[rv b840, iv p2, iv (0 : Int32), iv (2 : Int32)] [(.int (0 : Int32)), (.ref b51_846), (.int (2 : Int32))])) rfl rfl (hb hby d3_79) _ ?_
    exact kt
  obtain ⟨c978, Ar978, -, S978, M978, -, -⟩ := id Fi4
  have pre980 : ∀ t, Steps p.tables e below (T974.setTop (mkF m 103 #[rv b840, iv p2, iv (0 : Int32), iv (2 : Int32)] [(.ref b840)])) t → Steps p.tables e below (s₁.setTop (entryFrame m #[(.ref b840), (.int p2)] 4)) t := fun t kt => by
    refine pre979 _ ?_
    show Steps p.tables e below (T974.setTop (mkF m 80 #[rv b840, iv p2, iv (0 : Int32), iv (2 : Int32)] [(.ref b221_849), (.int (2 : Int32))])) _
    refine X974.arraylength hx (by rw [e974]; exact Ar978.1) (State.isArrayOf_alike hZ.alike Ar978.2.1) (g := (mkF m 80 #[rv b840, iv p2, iv (0 : Int32), iv (2 : Int32)] [(.ref b221_849), (.int (2 : Int32))])) rfl rfl (hb hby d3_80) _ ?_
    rw [len_of S978 M978]
    show Steps p.tables e below (T974.setTop (mkF m 81 #[rv b840, iv p2, iv (0 : Int32), iv (2 : Int32)] [(.int (16 : Int32)), (.int (2 : Int32))])) _
    refine XS.icmpYes X974.here hx rfl (pc0 := 81) (pc' := 102) rfl (hb hby d3_81) rfl (XT.ii_ne_t (by decide)) (by decide) (by decide) ?_
    show Steps p.tables e below (T974.setTop (mkF m 102 #[rv b840, iv p2, iv (0 : Int32), iv (2 : Int32)] [])) _
    refine XS.aloadN X974.here hx rfl (hb hby d3_102) rfl rfl ?_
    exact kt
  obtain ⟨T981, X981, e981, st981⟩ := getF X974 hx hZ hown (host := "") (Or.inl (W 12 rfl)) Via.refl e974 Fi2 (g := (mkF m 103 #[rv b840, iv p2, iv (0 : Int32), iv (2 : Int32)] [(.ref b840)])) rfl rfl (hb hby d3_103)
  have pre982 : ∀ t, Steps p.tables e below (T981.setTop (mkF m 106 #[rv b840, iv p2, iv (0 : Int32), iv (2 : Int32)] [(.ref b51_846)])) t → Steps p.tables e below (s₁.setTop (entryFrame m #[(.ref b840), (.int p2)] 4)) t := fun t kt => pre980 _ (st981 _ kt)
  have pre984 : ∀ t, Steps p.tables e below (T981.setTop (mkF m 107 #[rv b840, iv p2, iv (0 : Int32), iv (2 : Int32)] [(.int (0 : Int32)), (.ref b51_846)])) t → Steps p.tables e below (s₁.setTop (entryFrame m #[(.ref b840), (.int p2)] 4)) t := fun t kt => by
    refine pre982 _ ?_
    show Steps p.tables e below (T981.setTop (mkF m 106 #[rv b840, iv p2, iv (0 : Int32), iv (2 : Int32)] [(.ref b51_846)])) _
    refine XS.iloadN X981.here hx rfl (hb hby d3_106) rfl ?_
    exact kt
  obtain ⟨c983, Ar983, q983, S983, M983, H983, G983⟩ := id Fi0
  have i983 : ¬ ((0 : Int32) < 0 ∨ c983.slots.size ≤ ((0 : Int32)).toNatClampNeg) := inb_of S983 ⟨by decide, by decide⟩
  have t983 : c983.slots[((0 : Int32)).toNatClampNeg]? = some (.ref b221_849) := Has.at H983 i983 rfl
  have pre985 : ∀ t, Steps p.tables e below (T981.setTop (mkF m 110 #[rv b840, iv p2, iv (0 : Int32), iv (2 : Int32)] [(.int p2), (.int (2 : Int32)), (.ref b221_849)])) t → Steps p.tables e below (s₁.setTop (entryFrame m #[(.ref b840), (.int p2)] 4)) t := fun t kt => by
    refine pre984 _ ?_
    show Steps p.tables e below (T981.setTop (mkF m 107 #[rv b840, iv p2, iv (0 : Int32), iv (2 : Int32)] [(.int (0 : Int32)), (.ref b51_846)])) _
    refine X981.aaload hx (j := (0 : Int32)) (v := (.ref b221_849)) (by rw [e981]; exact Ar983.1) (State.isArrayOf_alike hZ.alike Ar983.2.1) rfl Ar983.2.2 i983 t983 (g := (mkF m 107 #[rv b840, iv p2, iv (0 : Int32), iv (2 : Int32)] [(.int (0 : Int32)), (.ref b51_846)])) rfl rfl (hb hby d3_107) _ ?_
    show Steps p.tables e below (T981.setTop (mkF m 108 #[rv b840, iv p2, iv (0 : Int32), iv (2 : Int32)] [(.ref b221_849)])) _
    refine XS.iloadN X981.here hx rfl (hb hby d3_108) rfl ?_
    show Steps p.tables e below (T981.setTop (mkF m 109 #[rv b840, iv p2, iv (0 : Int32), iv (2 : Int32)] [(.int (2 : Int32)), (.ref b221_849)])) _
    refine XS.iloadN X981.here hx rfl (hb hby d3_109) rfl ?_
    exact kt
  obtain ⟨c986, Ar986, q986, S986, M986, H986, G986⟩ := id Fi4
  have i986 : ¬ ((2 : Int32) < 0 ∨ c986.slots.size ≤ ((2 : Int32)).toNatClampNeg) := inb_of S986 ⟨by decide, by decide⟩
  obtain ⟨T987, h987, X987, e987, W987, st987⟩ := stI X981 hx hZ e981 Ar986 (j := (2 : Int32)) i986 (g := (mkF m 110 #[rv b840, iv p2, iv (0 : Int32), iv (2 : Int32)] [(.int p2), (.int (2 : Int32)), (.ref b221_849)])) rfl rfl (hb hby d3_110)
  have pre988 : ∀ t, Steps p.tables e below (T987.setTop (mkF m 111 #[rv b840, iv p2, iv (0 : Int32), iv (2 : Int32)] [])) t → Steps p.tables e below (s₁.setTop (entryFrame m #[(.ref b840), (.int p2)] 4)) t := fun t kt => pre985 _ (st987 _ kt)
  have N987 := Fr.snoc X987 N0 g_b221_849
  have O987 := O0.wr W987 g_b221_849
  have K987 : Keep h0 h987 [b840, b221_849] := K0.wr W987 (Or.inl (List.mem_of_getElem? (i := 1) rfl))
  have F989 := Fi0.other W987 (fun q => q2 q.symm)
  have F990 := Fi1.wr W987
  have F991 := Fi2.other W987 (Or.inl (fun q => q1 q.symm))
  have F992 := Fi3.wr W987
  have F993 := Fi5.other W987 (Or.inl (fun q => q1 q.symm))
  have F994 : Arv Z h987 b221_849 k221_849 .int (16 : Int32) [(.int p0), (.int p1), (.int p2), (.int (0 : Int32)), (.int (0 : Int32)), (.int (0 : Int32)), (.int (0 : Int32)), (.int (0 : Int32)), (.int (0 : Int32)), (.int (0 : Int32)), (.int (0 : Int32)), (.int (0 : Int32)), (.int (0 : Int32)), (.int (0 : Int32)), (.int (0 : Int32)), (.int (0 : Int32))] (.int (0 : Int32)) := Arv.set Ar986 q986 S986 M986 H986 G986 rfl W987 2 rfl (Nat.le_of_ble_eq_true rfl)
  have pre995 : ∀ t, Steps p.tables e below (T987.setTop (mkF m 113 #[rv b840, iv p2, iv (0 : Int32), iv (2 : Int32)] [(.ref b840), (.ref b840)])) t → Steps p.tables e below (s₁.setTop (entryFrame m #[(.ref b840), (.int p2)] 4)) t := fun t kt => by
    refine pre988 _ ?_
    show Steps p.tables e below (T987.setTop (mkF m 111 #[rv b840, iv p2, iv (0 : Int32), iv (2 : Int32)] [])) _
    refine XS.aloadN X987.here hx rfl (hb hby d3_111) rfl rfl ?_
    show Steps p.tables e below (T987.setTop (mkF m 112 #[rv b840, iv p2, iv (0 : Int32), iv (2 : Int32)] [(.ref b840)])) _
    refine XS.dup X987.here hx rfl (hb hby d3_112) rfl rfl ?_
    exact kt
  obtain ⟨T996, X996, e996, st996⟩ := getF X987 hx hZ hown (host := "") (Or.inl (W 19 rfl)) Via.refl e987 F993 (g := (mkF m 113 #[rv b840, iv p2, iv (0 : Int32), iv (2 : Int32)] [(.ref b840), (.ref b840)])) rfl rfl (hb hby d3_113)
  have pre997 : ∀ t, Steps p.tables e below (T996.setTop (mkF m 116 #[rv b840, iv p2, iv (0 : Int32), iv (2 : Int32)] [(.int (2 : Int32)), (.ref b840)])) t → Steps p.tables e below (s₁.setTop (entryFrame m #[(.ref b840), (.int p2)] 4)) t := fun t kt => pre995 _ (st996 _ kt)
  have pre998 : ∀ t, Steps p.tables e below (T996.setTop (mkF m 118 #[rv b840, iv p2, iv (0 : Int32), iv (2 : Int32)] [(.int (3 : Int32)), (.ref b840)])) t → Steps p.tables e below (s₁.setTop (entryFrame m #[(.ref b840), (.int p2)] 4)) t := fun t kt => by
    refine pre997 _ ?_
    show Steps p.tables e below (T996.setTop (mkF m 116 #[rv b840, iv p2, iv (0 : Int32), iv (2 : Int32)] [(.int (2 : Int32)), (.ref b840)])) _
    refine XS.iconst X996.here hx rfl (hb hby d3_116) ?_
    show Steps p.tables e below (T996.setTop (mkF m 117 #[rv b840, iv p2, iv (0 : Int32), iv (2 : Int32)] [(.int (1 : Int32)), (.int (2 : Int32)), (.ref b840)])) _
    refine XS.iadd X996.here hx rfl (hb hby d3_117) rfl ?_
    show  Steps p.tables e below (T996.setTop (mkF m 118 #[rv b840, iv p2, iv (0 : Int32), iv (2 : Int32)] [(.int ((2 : Int32) + (1 : Int32))), (.ref b840)])) _
    rw [(by decide : (((2 : Int32) + (1 : Int32)) : Int32) = (3 : Int32))]
    exact kt
  obtain ⟨T999, h999, X999, e999, W999, st999⟩ := putF X996 hx hZ hown (host := "") (Or.inl (W 19 rfl)) Via.refl e996 F993 F990 (Or.inl (W 20 rfl)) (W 2 rfl) (ty := .int) (by decide) rfl rfl (g := (mkF m 118 #[rv b840, iv p2, iv (0 : Int32), iv (2 : Int32)] [(.int (3 : Int32)), (.ref b840)])) rfl rfl (hb hby d3_118)
  have pre1000 : ∀ t, Steps p.tables e below (T999.setTop (mkF m 121 #[rv b840, iv p2, iv (0 : Int32), iv (2 : Int32)] [])) t → Steps p.tables e below (s₁.setTop (entryFrame m #[(.ref b840), (.int p2)] 4)) t := fun t kt => pre998 _ (st999 _ kt)
  have N999 := Fr.snoc X999 N987 g_b840
  have O999 := O987.wr W999 g_b840
  have K999 : Keep h0 h999 [b840, b221_849] := K987.wr W999 (Or.inl (List.mem_of_getElem? (i := 0) rfl))
  have F1001 := F989.other W999 q0
  have F1002 := F990.wr W999
  have F1003 := F991.other W999 (Or.inr (slot_ne (Or.inl (W 13 rfl)) (Or.inl (W 20 rfl)) (by decide) (t := (.array (.array .int))) (t' := .int) (by decide) (by decide)))
  have F1004 := F992.wr W999
  have F1005 := F994.other W999 q1
  have F1006 : Fld Z h999 b840 "org/reachwatch/IntBlocks" "size" "I" (.int (3 : Int32)) := F993.same W999
  obtain ⟨fs, hr, hrun, hended, hW, hsame⟩ := X999.leave (v := none) (fun _ => rfl)
  refine ⟨_, _, pre1000 _ (X999.returnOut hx Bd.returns (hb hby d3_121) hr), hrun, hended, _, _, rfl, ?_, ⟨_, rfl⟩, hW, hsame.mono (by decide) (by decide)⟩
  show Q_add3_2 Z b840 p2 k51_846 b51_846 b221_849 p0 p1 k221_849 h0 n0 _ T999.heap _
  rw [e999]
  exact ⟨rfl, N999, K999, O999, F1002, F1003, F1004, F1005, F1006⟩
def Q_checkIndex6_3 (Z : State)  (h0 : Heap) (n0 : Nat) (v : Option Value) (h : Heap) (L : List Loc) : Prop := v = some (.int (0 : Int32)) ∧ Fr n0 L ∧ h = h0
set_option maxRecDepth 65536 in
set_option maxHeartbeats 40000000 in
theorem rm_checkIndex6_3 (l : Launch) (Z : State) (a0 : Array Value) (hw : ∀ d ∈ tables_1, d.before a0 Z = true) (ws : List Jvm.Cond)  (h0 : Heap) (n0 : Nat) (O0 : Old Z n0 h0) :
    MetFree l (⟨"jdk/internal/util/Preconditions", "checkIndex", "(IILjava/util/function/BiFunction;)I"⟩ : MethodName) (head1 (Jvm.Cond.code (⟨"jdk/internal/util/Preconditions", "checkIndex", "(IILjava/util/function/BiFunction;)I"⟩ : MethodName) jdk_41_method_11_code 3 (some .int) :: ws) ({ frames := 0, cells := 0, slots := 0, locals := 0 } : Room)) (fun a U => a = #[(.int (0 : Int32)), (.int (3 : Int32)), .null] ∧ Z.Warmed39 U.vm ∧ U.heap = h0) (fun _ _ _ _ _ => True) (fun _ U o U' => ∃ v L, o = .returned v ∧ Q_checkIndex6_3 Z  h0 n0 v U'.heap L ∧ FrameEnd U o U' L ({ frames := 0, cells := 0, slots := 0, locals := 0 } : Room).cells ({ frames := 0, cells := 0, slots := 0, locals := 0 } : Room).slots) := by
  refine MetFree.of_bodySF (plainFor_of_name pn_7) hisR ?_
  intro p e s m args below meth c s₁ Bd hml0 hP hK
  have W := fun {d : Jvm.Cond} (i : Nat) (q : tables_1[i]? = some d) => hw d (List.mem_of_getElem? q)
  obtain ⟨rfl, hZ, hh⟩ := hP
  have hx := Bd.exec
  have hby := Bd.bytes
  have hml : c.maxLocals = 3 := hml0
  have hown : s.vm.findClass "jdk/internal/util/Preconditions" = some m.cls := findClass_of_methodNamed Bd.named
  have hnm := (name_of_methodNamed Bd.named Bd.method).1
  have X0 : Stand p l e ({ frames := 0, cells := 0, slots := 0, locals := 0 } : Room) s m #[(.int (0 : Int32)), (.int (3 : Int32)), .null] below meth c s₁ [] 0 0 := Stand.of_body Bd
  have e0 : s₁.heap = h0 := by rw [← hh, Bd.state]; rfl
  have N0 := Fr.nil n0
  have pre0 : ∀ t, Steps p.tables e below (s₁.setTop (mkF m 0 #[iv (0 : Int32), iv (3 : Int32), .val .null] [])) t → Steps p.tables e below (s₁.setTop (entryFrame m #[(.int (0 : Int32)), (.int (3 : Int32)), .null] 3)) t := fun t k => castTop (ef_8 m (0 : Int32) (3 : Int32)) k
  have K0 : Keep h0 h0 [] := Keep.refl h0 []
  have pre1022 : ∀ t, Steps p.tables e below (s₁.setTop (mkF m 17 #[iv (0 : Int32), iv (3 : Int32), .val .null] [(.int (0 : Int32))])) t → Steps p.tables e below (s₁.setTop (entryFrame m #[(.int (0 : Int32)), (.int (3 : Int32)), .null] 3)) t := fun t kt => by
    refine pre0 _ ?_
    show Steps p.tables e below (s₁.setTop (mkF m 0 #[iv (0 : Int32), iv (3 : Int32), .val .null] [])) _
    refine XS.iloadN X0.here hx rfl (hb hby d6_0) rfl ?_
    show Steps p.tables e below (s₁.setTop (mkF m 1 #[iv (0 : Int32), iv (3 : Int32), .val .null] [(.int (0 : Int32))])) _
    refine XS.ifNo X0.here hx rfl (hb hby d6_1) rfl (XT.i0_lt_f (by decide)) ?_
    show Steps p.tables e below (s₁.setTop (mkF m 4 #[iv (0 : Int32), iv (3 : Int32), .val .null] [])) _
    refine XS.iloadN X0.here hx rfl (hb hby d6_4) rfl ?_
    show Steps p.tables e below (s₁.setTop (mkF m 5 #[iv (0 : Int32), iv (3 : Int32), .val .null] [(.int (0 : Int32))])) _
    refine XS.iloadN X0.here hx rfl (hb hby d6_5) rfl ?_
    show Steps p.tables e below (s₁.setTop (mkF m 6 #[iv (0 : Int32), iv (3 : Int32), .val .null] [(.int (3 : Int32)), (.int (0 : Int32))])) _
    refine XS.icmpYes X0.here hx rfl (pc0 := 6) (pc' := 16) rfl (hb hby d6_6) rfl (XT.ii_lt_t (by decide)) (by decide) (by decide) ?_
    show Steps p.tables e below (s₁.setTop (mkF m 16 #[iv (0 : Int32), iv (3 : Int32), .val .null] [])) _
    refine XS.iloadN X0.here hx rfl (hb hby d6_16) rfl ?_
    exact kt
  obtain ⟨fs, hr, hrun, hended, hW, hsame⟩ := X0.leave (v := some (.int (0 : Int32))) (fun h => by rw [Bd.returns] at h; cases h)
  refine ⟨_, _, pre1022 _ (retI X0 hx Bd.returns (hb hby d6_17) hr), hrun, hended, _, _, rfl, ?_, ⟨_, rfl⟩, hW, hsame.mono (by decide) (by decide)⟩
  show Q_checkIndex6_3 Z  h0 n0 _ s₁.heap _
  rw [e0]
  exact ⟨rfl, N0, rfl⟩
def Q_checkIndex5_3 (Z : State)  (h0 : Heap) (n0 : Nat) (v : Option Value) (h : Heap) (L : List Loc) : Prop := v = some (.int (0 : Int32)) ∧ Fr n0 L ∧ h = h0
set_option maxRecDepth 65536 in
set_option maxHeartbeats 40000000 in
theorem rm_checkIndex5_3 (l : Launch) (Z : State) (a0 : Array Value) (hw : ∀ d ∈ tables_1, d.before a0 Z = true) (ws : List Jvm.Cond)  (h0 : Heap) (n0 : Nat) (O0 : Old Z n0 h0) :
    MetFree l (⟨"java/util/Objects", "checkIndex", "(II)I"⟩ : MethodName) (head1 (Jvm.Cond.code (⟨"java/util/Objects", "checkIndex", "(II)I"⟩ : MethodName) jdk_31_method_17_code 2 (some .int) :: ws) ({ frames := 1, cells := 0, slots := 0, locals := 14 } : Room)) (fun a U => a = #[(.int (0 : Int32)), (.int (3 : Int32))] ∧ Z.Warmed39 U.vm ∧ U.heap = h0) (fun _ _ _ _ _ => True) (fun _ U o U' => ∃ v L, o = .returned v ∧ Q_checkIndex5_3 Z  h0 n0 v U'.heap L ∧ FrameEnd U o U' L ({ frames := 1, cells := 0, slots := 0, locals := 14 } : Room).cells ({ frames := 1, cells := 0, slots := 0, locals := 14 } : Room).slots) := by
  refine MetFree.of_bodySF (plainFor_of_name pn_10) hisR ?_
  intro p e s m args below meth c s₁ Bd hml0 hP hK
  have W := fun {d : Jvm.Cond} (i : Nat) (q : tables_1[i]? = some d) => hw d (List.mem_of_getElem? q)
  obtain ⟨rfl, hZ, hh⟩ := hP
  have hx := Bd.exec
  have hby := Bd.bytes
  have hml : c.maxLocals = 2 := hml0
  have hown : s.vm.findClass "java/util/Objects" = some m.cls := findClass_of_methodNamed Bd.named
  have hnm := (name_of_methodNamed Bd.named Bd.method).1
  have X0 : Stand p l e ({ frames := 1, cells := 0, slots := 0, locals := 14 } : Room) s m #[(.int (0 : Int32)), (.int (3 : Int32))] below meth c s₁ [] 0 0 := Stand.of_body Bd
  have e0 : s₁.heap = h0 := by rw [← hh, Bd.state]; rfl
  have N0 := Fr.nil n0
  have pre0 : ∀ t, Steps p.tables e below (s₁.setTop (mkF m 0 #[iv (0 : Int32), iv (3 : Int32)] [])) t → Steps p.tables e below (s₁.setTop (entryFrame m #[(.int (0 : Int32)), (.int (3 : Int32))] 2)) t := fun t k => castTop (ef_11 m (0 : Int32) (3 : Int32)) k
  have K0 : Keep h0 h0 [] := Keep.refl h0 []
  have pre1027 : ∀ t, Steps p.tables e below (s₁.setTop (mkF m 3 #[iv (0 : Int32), iv (3 : Int32)] [.null, (.int (3 : Int32)), (.int (0 : Int32))])) t → Steps p.tables e below (s₁.setTop (entryFrame m #[(.int (0 : Int32)), (.int (3 : Int32))] 2)) t := fun t kt => by
    refine pre0 _ ?_
    show Steps p.tables e below (s₁.setTop (mkF m 0 #[iv (0 : Int32), iv (3 : Int32)] [])) _
    refine XS.iloadN X0.here hx rfl (hb hby d5_0) rfl ?_
    show Steps p.tables e below (s₁.setTop (mkF m 1 #[iv (0 : Int32), iv (3 : Int32)] [(.int (0 : Int32))])) _
    refine XS.iloadN X0.here hx rfl (hb hby d5_1) rfl ?_
    show Steps p.tables e below (s₁.setTop (mkF m 2 #[iv (0 : Int32), iv (3 : Int32)] [(.int (3 : Int32)), (.int (0 : Int32))])) _
    refine XS.aconstNull X0.here hx rfl (hb hby d5_2) ?_
    exact kt
  obtain ⟨_, _, ⟨T1028, L1028, k1028, n1028⟩, -, X1028, ⟨Lc1028, hQ1028, l1028, y1028, z1028⟩, st1028⟩ := Jvm.LawKit.callS X0 hx (y := (⟨"jdk/internal/util/Preconditions", "checkIndex", "(IILjava/util/function/BiFunction;)I"⟩ : MethodName)) hown (mvT hZ (W 33 rfl)) (mvT hZ (W 34 rfl)) (mvT hZ (W 35 rfl)) (mvT hZ (W 36 rfl)) (by decide) (backOf (W := 0) (rm_checkIndex6_3 l Z a0 hw [] h0 n0 O0) hZ (W 36 rfl) (W 35 rfl) (by decide) (by decide)) (g := (mkF m 3 #[iv (0 : Int32), iv (3 : Int32)] [.null, (.int (3 : Int32)), (.int (0 : Int32))])) rfl (by rw [hml]; rfl) (argsL := [(.int (0 : Int32)), (.int (3 : Int32)), .null]) (rest := []) (lenOf pd_9 rfl) rfl (by show 2 * 0 + _ ≤ _; exact Nat.le_of_eq rfl) (hb hby d5_3) (fun _ _ => ⟨rfl, e0, (by decide : 0 + 0 ≤ _), (by decide : 0 + 0 ≤ _)⟩)
  dsimp only [Pt.U, Pt.locs, Pt.cells, Pt.slots] at X1028 l1028 y1028 z1028 st1028 hQ1028
  replace l1028 := l1028.symm
  replace y1028 : 0 = k1028 := y1028.symm
  replace z1028 : 0 = n1028 := z1028.symm
  subst l1028 y1028 z1028
  obtain ⟨rfl, M1028, e1028⟩ := hQ1028
  have N1028 := Fr.app N0 M1028
  have pre1029 : ∀ t, Steps p.tables e below (T1028.setTop (mkF m 6 #[iv (0 : Int32), iv (3 : Int32)] [(.int (0 : Int32))])) t → Steps p.tables e below (s₁.setTop (entryFrame m #[(.int (0 : Int32)), (.int (3 : Int32))] 2)) t := fun t kt => pre1027 _ (st1028 _ kt)
  obtain ⟨fs, hr, hrun, hended, hW, hsame⟩ := X1028.leave (v := some (.int (0 : Int32))) (fun h => by rw [Bd.returns] at h; cases h)
  refine ⟨_, _, pre1029 _ (retI X1028 hx Bd.returns (hb hby d5_6) hr), hrun, hended, _, _, rfl, ?_, ⟨_, rfl⟩, hW, hsame.mono (by decide) (by decide)⟩
  show Q_checkIndex5_3 Z  h0 n0 _ T1028.heap _
  rw [e1028]
  exact ⟨rfl, N1028, rfl⟩
def Q_set4_3 (Z : State) (b840 : Addr) (p5 : Int32) (k51_846 : ClassId) (b51_846 : Addr) (b221_849 : Addr) (p0 : Int32) (p1 : Int32) (p2 : Int32) (k221_849 : ClassId) (h0 : Heap) (n0 : Nat) (v : Option Value) (h : Heap) (L : List Loc) : Prop := v = none ∧ Fr n0 L ∧ Keep h0 h [b221_849] ∧ Old Z n0 h ∧ Exa Z h b221_849 "[I" ∧ Arv Z h b221_849 k221_849 .int (16 : Int32) [(.int p5), (.int p1), (.int p2), (.int (0 : Int32)), (.int (0 : Int32)), (.int (0 : Int32)), (.int (0 : Int32)), (.int (0 : Int32)), (.int (0 : Int32)), (.int (0 : Int32)), (.int (0 : Int32)), (.int (0 : Int32)), (.int (0 : Int32)), (.int (0 : Int32)), (.int (0 : Int32)), (.int (0 : Int32))] (.int (0 : Int32))
set_option maxRecDepth 65536 in
set_option maxHeartbeats 40000000 in
theorem rm_set4_3 (l : Launch) (Z : State) (a0 : Array Value) (hw : ∀ d ∈ tables_1, d.before a0 Z = true) (ws : List Jvm.Cond) (b840 : Addr) (p5 : Int32) (k51_846 : ClassId) (b51_846 : Addr) (b221_849 : Addr) (p0 : Int32) (p1 : Int32) (p2 : Int32) (k221_849 : ClassId) (h0 : Heap) (n0 : Nat) (O0 : Old Z n0 h0) (g_b221_849 : n0 ≤ b221_849) (Fi0 : Arv Z h0 b51_846 k51_846 (.array .int) (1 : Int32) [(.ref b221_849)] .null) (Fi1 : Fld Z h0 b840 "org/reachwatch/IntBlocks" "blocks" "[[I" (.ref b51_846)) (Fi2 : Exa Z h0 b221_849 "[I") (Fi3 : Arv Z h0 b221_849 k221_849 .int (16 : Int32) [(.int p0), (.int p1), (.int p2), (.int (0 : Int32)), (.int (0 : Int32)), (.int (0 : Int32)), (.int (0 : Int32)), (.int (0 : Int32)), (.int (0 : Int32)), (.int (0 : Int32)), (.int (0 : Int32)), (.int (0 : Int32)), (.int (0 : Int32)), (.int (0 : Int32)), (.int (0 : Int32)), (.int (0 : Int32))] (.int (0 : Int32))) (Fi4 : Fld Z h0 b840 "org/reachwatch/IntBlocks" "size" "I" (.int (3 : Int32))) (q0 : ¬ (b221_849 = b840)) (q1 : ¬ (b221_849 = b51_846)) :
    MetFree l (⟨"org/reachwatch/IntBlocks", "set", "(II)V"⟩ : MethodName) (head1 (Jvm.Cond.code (⟨"org/reachwatch/IntBlocks", "set", "(II)V"⟩ : MethodName) prog_56_method_4_code 3 none :: ws) ({ frames := 2, cells := 0, slots := 0, locals := 27 } : Room)) (fun a U => a = #[(.ref b840), (.int (0 : Int32)), (.int p5)] ∧ Z.Warmed39 U.vm ∧ U.heap = h0) (fun _ _ _ _ _ => True) (fun _ U o U' => ∃ v L, o = .returned v ∧ Q_set4_3 Z b840 p5 k51_846 b51_846 b221_849 p0 p1 p2 k221_849 h0 n0 v U'.heap L ∧ FrameEnd U o U' L ({ frames := 2, cells := 0, slots := 0, locals := 27 } : Room).cells ({ frames := 2, cells := 0, slots := 0, locals := 27 } : Room).slots) := by
  refine MetFree.of_bodySF (plainFor_of_name pn_2) hisR ?_
  intro p e s m args below meth c s₁ Bd hml0 hP hK
  have W := fun {d : Jvm.Cond} (i : Nat) (q : tables_1[i]? = some d) => hw d (List.mem_of_getElem? q)
  obtain ⟨rfl, hZ, hh⟩ := hP
  have hx := Bd.exec
  have hby := Bd.bytes
  have hml : c.maxLocals = 3 := hml0
  have hown : s.vm.findClass "org/reachwatch/IntBlocks" = some m.cls := findClass_of_methodNamed Bd.named
  have hnm := (name_of_methodNamed Bd.named Bd.method).1
  have X0 : Stand p l e ({ frames := 2, cells := 0, slots := 0, locals := 27 } : Room) s m #[(.ref b840), (.int (0 : Int32)), (.int p5)] below meth c s₁ [] 0 0 := Stand.of_body Bd
  have e0 : s₁.heap = h0 := by rw [← hh, Bd.state]; rfl
  have N0 := Fr.nil n0
  have pre0 : ∀ t, Steps p.tables e below (s₁.setTop (mkF m 0 #[rv b840, iv (0 : Int32), iv p5] [])) t → Steps p.tables e below (s₁.setTop (entryFrame m #[(.ref b840), (.int (0 : Int32)), (.int p5)] 3)) t := fun t k => castTop (ef_13 m b840 (0 : Int32) p5) k
  have K0 : Keep h0 h0 [b221_849] := Keep.refl h0 [b221_849]
  have pre1066 : ∀ t, Steps p.tables e below (s₁.setTop (mkF m 2 #[rv b840, iv (0 : Int32), iv p5] [(.ref b840), (.int (0 : Int32))])) t → Steps p.tables e below (s₁.setTop (entryFrame m #[(.ref b840), (.int (0 : Int32)), (.int p5)] 3)) t := fun t kt => by
    refine pre0 _ ?_
    show Steps p.tables e below (s₁.setTop (mkF m 0 #[rv b840, iv (0 : Int32), iv p5] [])) _
    refine XS.iloadN X0.here hx rfl (hb hby d4_0) rfl ?_
    show Steps p.tables e below (s₁.setTop (mkF m 1 #[rv b840, iv (0 : Int32), iv p5] [(.int (0 : Int32))])) _
    refine XS.aloadN X0.here hx rfl (hb hby d4_1) rfl rfl ?_
    exact kt
  obtain ⟨T1067, X1067, e1067, st1067⟩ := getF X0 hx hZ hown (host := "") (Or.inl (W 19 rfl)) Via.refl e0 Fi4 (g := (mkF m 2 #[rv b840, iv (0 : Int32), iv p5] [(.ref b840), (.int (0 : Int32))])) rfl rfl (hb hby d4_2)
  have pre1068 : ∀ t, Steps p.tables e below (T1067.setTop (mkF m 5 #[rv b840, iv (0 : Int32), iv p5] [(.int (3 : Int32)), (.int (0 : Int32))])) t → Steps p.tables e below (s₁.setTop (entryFrame m #[(.ref b840), (.int (0 : Int32)), (.int p5)] 3)) t := fun t kt => pre1066 _ (st1067 _ kt)
  obtain ⟨_, _, ⟨T1069, L1069, k1069, n1069⟩, -, X1069, ⟨Lc1069, hQ1069, l1069, y1069, z1069⟩, st1069⟩ := Jvm.LawKit.callS X1067 hx (y := (⟨"java/util/Objects", "checkIndex", "(II)I"⟩ : MethodName)) hown (mvT hZ (W 29 rfl)) (mvT hZ (W 30 rfl)) (mvT hZ (W 31 rfl)) (mvT hZ (W 32 rfl)) (by decide) (backOf (W := 0) (rm_checkIndex5_3 l Z a0 hw [] h0 n0 O0) hZ (W 32 rfl) (W 31 rfl) (by decide) (by decide)) (g := (mkF m 5 #[rv b840, iv (0 : Int32), iv p5] [(.int (3 : Int32)), (.int (0 : Int32))])) rfl (by rw [hml]; rfl) (argsL := [(.int (0 : Int32)), (.int (3 : Int32))]) (rest := []) (lenOf pd_12 rfl) rfl (by show 2 * 0 + _ ≤ _; exact Nat.le_of_eq rfl) (hb hby d4_5) (fun _ _ => ⟨rfl, e1067, (by decide : 0 + 0 ≤ _), (by decide : 0 + 0 ≤ _)⟩)
  dsimp only [Pt.U, Pt.locs, Pt.cells, Pt.slots] at X1069 l1069 y1069 z1069 st1069 hQ1069
  replace l1069 := l1069.symm
  replace y1069 : 0 = k1069 := y1069.symm
  replace z1069 : 0 = n1069 := z1069.symm
  subst l1069 y1069 z1069
  obtain ⟨rfl, M1069, e1069⟩ := hQ1069
  have N1069 := Fr.app N0 M1069
  have pre1070 : ∀ t, Steps p.tables e below (T1069.setTop (mkF m 8 #[rv b840, iv (0 : Int32), iv p5] [(.int (0 : Int32))])) t → Steps p.tables e below (s₁.setTop (entryFrame m #[(.ref b840), (.int (0 : Int32)), (.int p5)] 3)) t := fun t kt => pre1068 _ (st1069 _ kt)
  have pre1071 : ∀ t, Steps p.tables e below (T1069.setTop (mkF m 10 #[rv b840, iv (0 : Int32), iv p5] [(.ref b840)])) t → Steps p.tables e below (s₁.setTop (entryFrame m #[(.ref b840), (.int (0 : Int32)), (.int p5)] 3)) t := fun t kt => by
    refine pre1070 _ ?_
    show Steps p.tables e below (T1069.setTop (mkF m 8 #[rv b840, iv (0 : Int32), iv p5] [(.int (0 : Int32))])) _
    refine XS.pop X1069.here hx rfl (hb hby d4_8) rfl rfl ?_
    show Steps p.tables e below (T1069.setTop (mkF m 9 #[rv b840, iv (0 : Int32), iv p5] [])) _
    refine XS.aloadN X1069.here hx rfl (hb hby d4_9) rfl rfl ?_
    exact kt
  obtain ⟨T1072, X1072, e1072, st1072⟩ := getF X1069 hx hZ hown (host := "") (Or.inl (W 12 rfl)) Via.refl e1069 Fi1 (g := (mkF m 10 #[rv b840, iv (0 : Int32), iv p5] [(.ref b840)])) rfl rfl (hb hby d4_10)
  have pre1073 : ∀ t, Steps p.tables e below (T1072.setTop (mkF m 13 #[rv b840, iv (0 : Int32), iv p5] [(.ref b51_846)])) t → Steps p.tables e below (s₁.setTop (entryFrame m #[(.ref b840), (.int (0 : Int32)), (.int p5)] 3)) t := fun t kt => pre1071 _ (st1072 _ kt)
  have pre1075 : ∀ t, Steps p.tables e below (T1072.setTop (mkF m 17 #[rv b840, iv (0 : Int32), iv p5] [(.int (0 : Int32)), (.ref b51_846)])) t → Steps p.tables e below (s₁.setTop (entryFrame m #[(.ref b840), (.int (0 : Int32)), (.int p5)] 3)) t := fun t kt => by
    refine pre1073 _ ?_
    show Steps p.tables e below (T1072.setTop (mkF m 13 #[rv b840, iv (0 : Int32), iv p5] [(.ref b51_846)])) _
    refine XS.iloadN X1072.here hx rfl (hb hby d4_13) rfl ?_
    show Steps p.tables e below (T1072.setTop (mkF m 14 #[rv b840, iv (0 : Int32), iv p5] [(.int (0 : Int32)), (.ref b51_846)])) _
    refine X1072.ldcInt hx hown (mvT hZ (W 21 rfl)) (g := (mkF m 14 #[rv b840, iv (0 : Int32), iv p5] [(.int (0 : Int32)), (.ref b51_846)])) rfl (hb hby d4_14) _ ?_
    show Steps p.tables e below (T1072.setTop (mkF m 16 #[rv b840, iv (0 : Int32), iv p5] [(.int (65536 : Int32)), (.int (0 : Int32)), (.ref b51_846)])) _
    refine XS.idiv X1072.here hx rfl (hb hby d4_16) rfl (by decide) ?_
    show  Steps p.tables e below (T1072.setTop (mkF m 17 #[rv b840, iv (0 : Int32), iv p5] [(.int ((0 : Int32) / (65536 : Int32))), (.ref b51_846)])) _
    rw [(by decide : (((0 : Int32) / (65536 : Int32)) : Int32) = (0 : Int32))]
    exact kt
  obtain ⟨c1074, Ar1074, q1074, S1074, M1074, H1074, G1074⟩ := id Fi0
  have i1074 : ¬ ((0 : Int32) < 0 ∨ c1074.slots.size ≤ ((0 : Int32)).toNatClampNeg) := inb_of S1074 ⟨by decide, by decide⟩
  have t1074 : c1074.slots[((0 : Int32)).toNatClampNeg]? = some (.ref b221_849) := Has.at H1074 i1074 rfl
  have pre1076 : ∀ t, Steps p.tables e below (T1072.setTop (mkF m 23 #[rv b840, iv (0 : Int32), iv p5] [(.int p5), (.int (0 : Int32)), (.ref b221_849)])) t → Steps p.tables e below (s₁.setTop (entryFrame m #[(.ref b840), (.int (0 : Int32)), (.int p5)] 3)) t := fun t kt => by
    refine pre1075 _ ?_
    show Steps p.tables e below (T1072.setTop (mkF m 17 #[rv b840, iv (0 : Int32), iv p5] [(.int (0 : Int32)), (.ref b51_846)])) _
    refine X1072.aaload hx (j := (0 : Int32)) (v := (.ref b221_849)) (by rw [e1072]; exact Ar1074.1) (State.isArrayOf_alike hZ.alike Ar1074.2.1) rfl Ar1074.2.2 i1074 t1074 (g := (mkF m 17 #[rv b840, iv (0 : Int32), iv p5] [(.int (0 : Int32)), (.ref b51_846)])) rfl rfl (hb hby d4_17) _ ?_
    show Steps p.tables e below (T1072.setTop (mkF m 18 #[rv b840, iv (0 : Int32), iv p5] [(.ref b221_849)])) _
    refine XS.iloadN X1072.here hx rfl (hb hby d4_18) rfl ?_
    show Steps p.tables e below (T1072.setTop (mkF m 19 #[rv b840, iv (0 : Int32), iv p5] [(.int (0 : Int32)), (.ref b221_849)])) _
    refine X1072.ldcInt hx hown (mvT hZ (W 21 rfl)) (g := (mkF m 19 #[rv b840, iv (0 : Int32), iv p5] [(.int (0 : Int32)), (.ref b221_849)])) rfl (hb hby d4_19) _ ?_
    show Steps p.tables e below (T1072.setTop (mkF m 21 #[rv b840, iv (0 : Int32), iv p5] [(.int (65536 : Int32)), (.int (0 : Int32)), (.ref b221_849)])) _
    refine XS.irem X1072.here hx rfl (hb hby d4_21) rfl (by decide) ?_
    show  Steps p.tables e below (T1072.setTop (mkF m 22 #[rv b840, iv (0 : Int32), iv p5] [(.int ((0 : Int32) - ((0 : Int32) / (65536 : Int32)) * (65536 : Int32))), (.ref b221_849)])) _
    rw [(by decide : (((0 : Int32) - ((0 : Int32) / (65536 : Int32)) * (65536 : Int32)) : Int32) = (0 : Int32))]
    show Steps p.tables e below (T1072.setTop (mkF m 22 #[rv b840, iv (0 : Int32), iv p5] [(.int (0 : Int32)), (.ref b221_849)])) _
    refine XS.iloadN X1072.here hx rfl (hb hby d4_22) rfl ?_
    exact kt
  obtain ⟨c1077, Ar1077, q1077, S1077, M1077, H1077, G1077⟩ := id Fi3
  have i1077 : ¬ ((0 : Int32) < 0 ∨ c1077.slots.size ≤ ((0 : Int32)).toNatClampNeg) := inb_of S1077 ⟨by decide, by decide⟩
  obtain ⟨T1078, h1078, X1078, e1078, W1078, st1078⟩ := stI X1072 hx hZ e1072 Ar1077 (j := (0 : Int32)) i1077 (g := (mkF m 23 #[rv b840, iv (0 : Int32), iv p5] [(.int p5), (.int (0 : Int32)), (.ref b221_849)])) rfl rfl (hb hby d4_23)
  have pre1079 : ∀ t, Steps p.tables e below (T1078.setTop (mkF m 24 #[rv b840, iv (0 : Int32), iv p5] [])) t → Steps p.tables e below (s₁.setTop (entryFrame m #[(.ref b840), (.int (0 : Int32)), (.int p5)] 3)) t := fun t kt => pre1076 _ (st1078 _ kt)
  have N1078 := Fr.snoc X1078 N1069 g_b221_849
  have O1078 := O0.wr W1078 g_b221_849
  have K1078 : Keep h0 h1078 [b221_849] := K0.wr W1078 (Or.inl (List.mem_of_getElem? (i := 0) rfl))
  have F1080 := Fi0.other W1078 (fun q => q1 q.symm)
  have F1081 := Fi1.other W1078 (Or.inl (fun q => q0 q.symm))
  have F1082 := Fi2.wr W1078
  have F1083 := Fi4.other W1078 (Or.inl (fun q => q0 q.symm))
  have F1084 : Arv Z h1078 b221_849 k221_849 .int (16 : Int32) [(.int p5), (.int p1), (.int p2), (.int (0 : Int32)), (.int (0 : Int32)), (.int (0 : Int32)), (.int (0 : Int32)), (.int (0 : Int32)), (.int (0 : Int32)), (.int (0 : Int32)), (.int (0 : Int32)), (.int (0 : Int32)), (.int (0 : Int32)), (.int (0 : Int32)), (.int (0 : Int32)), (.int (0 : Int32))] (.int (0 : Int32)) := Arv.set Ar1077 q1077 S1077 M1077 H1077 G1077 rfl W1078 0 rfl (Nat.le_of_ble_eq_true rfl)
  obtain ⟨fs, hr, hrun, hended, hW, hsame⟩ := X1078.leave (v := none) (fun _ => rfl)
  refine ⟨_, _, pre1079 _ (X1078.returnOut hx Bd.returns (hb hby d4_24) hr), hrun, hended, _, _, rfl, ?_, ⟨_, rfl⟩, hW, hsame.mono (by decide) (by decide)⟩
  show Q_set4_3 Z b840 p5 k51_846 b51_846 b221_849 p0 p1 p2 k221_849 h0 n0 _ T1078.heap _
  rw [e1078]
  exact ⟨rfl, N1078, K1078, O1078, F1082, F1084⟩
def Q_size7_2 (Z : State) (b840 : Addr) (h0 : Heap) (n0 : Nat) (v : Option Value) (h : Heap) (L : List Loc) : Prop := v = some (.int (3 : Int32)) ∧ Fr n0 L ∧ h = h0
set_option maxRecDepth 65536 in
set_option maxHeartbeats 40000000 in
theorem rm_size7_2 (l : Launch) (Z : State) (a0 : Array Value) (hw : ∀ d ∈ tables_1, d.before a0 Z = true) (ws : List Jvm.Cond) (b840 : Addr) (h0 : Heap) (n0 : Nat) (O0 : Old Z n0 h0) (Fi0 : Fld Z h0 b840 "org/reachwatch/IntBlocks" "size" "I" (.int (3 : Int32))) :
    MetFree l (⟨"org/reachwatch/IntBlocks", "size", "()I"⟩ : MethodName) (head1 (Jvm.Cond.code (⟨"org/reachwatch/IntBlocks", "size", "()I"⟩ : MethodName) prog_56_method_5_code 1 (some .int) :: ws) ({ frames := 0, cells := 0, slots := 0, locals := 0 } : Room)) (fun a U => a = #[(.ref b840)] ∧ Z.Warmed39 U.vm ∧ U.heap = h0) (fun _ _ _ _ _ => True) (fun _ U o U' => ∃ v L, o = .returned v ∧ Q_size7_2 Z b840 h0 n0 v U'.heap L ∧ FrameEnd U o U' L ({ frames := 0, cells := 0, slots := 0, locals := 0 } : Room).cells ({ frames := 0, cells := 0, slots := 0, locals := 0 } : Room).slots) := by
  refine MetFree.of_bodySF (plainFor_of_name pn_2) hisR ?_
  intro p e s m args below meth c s₁ Bd hml0 hP hK
  have W := fun {d : Jvm.Cond} (i : Nat) (q : tables_1[i]? = some d) => hw d (List.mem_of_getElem? q)
  obtain ⟨rfl, hZ, hh⟩ := hP
  have hx := Bd.exec
  have hby := Bd.bytes
  have hml : c.maxLocals = 1 := hml0
  have hown : s.vm.findClass "org/reachwatch/IntBlocks" = some m.cls := findClass_of_methodNamed Bd.named
  have hnm := (name_of_methodNamed Bd.named Bd.method).1
  have X0 : Stand p l e ({ frames := 0, cells := 0, slots := 0, locals := 0 } : Room) s m #[(.ref b840)] below meth c s₁ [] 0 0 := Stand.of_body Bd
  have e0 : s₁.heap = h0 := by rw [← hh, Bd.state]; rfl
  have N0 := Fr.nil n0
  have pre0 : ∀ t, Steps p.tables e below (s₁.setTop (mkF m 0 #[rv b840] [])) t → Steps p.tables e below (s₁.setTop (entryFrame m #[(.ref b840)] 1)) t := fun t k => castTop (ef_15 m b840) k
  have K0 : Keep h0 h0 [] := Keep.refl h0 []
  have pre1099 : ∀ t, Steps p.tables e below (s₁.setTop (mkF m 1 #[rv b840] [(.ref b840)])) t → Steps p.tables e below (s₁.setTop (entryFrame m #[(.ref b840)] 1)) t := fun t kt => by
    refine pre0 _ ?_
    show Steps p.tables e below (s₁.setTop (mkF m 0 #[rv b840] [])) _
    refine XS.aloadN X0.here hx rfl (hb hby d7_0) rfl rfl ?_
    exact kt
  obtain ⟨T1100, X1100, e1100, st1100⟩ := getF X0 hx hZ hown (host := "") (Or.inl (W 19 rfl)) Via.refl e0 Fi0 (g := (mkF m 1 #[rv b840] [(.ref b840)])) rfl rfl (hb hby d7_1)
  have pre1101 : ∀ t, Steps p.tables e below (T1100.setTop (mkF m 4 #[rv b840] [(.int (3 : Int32))])) t → Steps p.tables e below (s₁.setTop (entryFrame m #[(.ref b840)] 1)) t := fun t kt => pre1099 _ (st1100 _ kt)
  obtain ⟨fs, hr, hrun, hended, hW, hsame⟩ := X1100.leave (v := some (.int (3 : Int32))) (fun h => by rw [Bd.returns] at h; cases h)
  refine ⟨_, _, pre1101 _ (retI X1100 hx Bd.returns (hb hby d7_4) hr), hrun, hended, _, _, rfl, ?_, ⟨_, rfl⟩, hW, hsame.mono (by decide) (by decide)⟩
  show Q_size7_2 Z b840 h0 n0 _ T1100.heap _
  rw [e1100]
  exact ⟨rfl, N0, rfl⟩
def Q_get8_3 (Z : State) (b840 : Addr) (k51_846 : ClassId) (b51_846 : Addr) (b221_849 : Addr) (p5 : Int32) (p1 : Int32) (p2 : Int32) (k221_849 : ClassId) (h0 : Heap) (n0 : Nat) (v : Option Value) (h : Heap) (L : List Loc) : Prop := v = some (.int p5) ∧ Fr n0 L ∧ h = h0
set_option maxRecDepth 65536 in
set_option maxHeartbeats 40000000 in
theorem rm_get8_3 (l : Launch) (Z : State) (a0 : Array Value) (hw : ∀ d ∈ tables_1, d.before a0 Z = true) (ws : List Jvm.Cond) (b840 : Addr) (k51_846 : ClassId) (b51_846 : Addr) (b221_849 : Addr) (p5 : Int32) (p1 : Int32) (p2 : Int32) (k221_849 : ClassId) (h0 : Heap) (n0 : Nat) (O0 : Old Z n0 h0) (Fi0 : Arv Z h0 b51_846 k51_846 (.array .int) (1 : Int32) [(.ref b221_849)] .null) (Fi1 : Fld Z h0 b840 "org/reachwatch/IntBlocks" "blocks" "[[I" (.ref b51_846)) (Fi2 : Fld Z h0 b840 "org/reachwatch/IntBlocks" "size" "I" (.int (3 : Int32))) (Fi3 : Arv Z h0 b221_849 k221_849 .int (16 : Int32) [(.int p5), (.int p1), (.int p2), (.int (0 : Int32)), (.int (0 : Int32)), (.int (0 : Int32)), (.int (0 : Int32)), (.int (0 : Int32)), (.int (0 : Int32)), (.int (0 : Int32)), (.int (0 : Int32)), (.int (0 : Int32)), (.int (0 : Int32)), (.int (0 : Int32)), (.int (0 : Int32)), (.int (0 : Int32))] (.int (0 : Int32))) :
    MetFree l (⟨"org/reachwatch/IntBlocks", "get", "(I)I"⟩ : MethodName) (head1 (Jvm.Cond.code (⟨"org/reachwatch/IntBlocks", "get", "(I)I"⟩ : MethodName) prog_56_method_3_code 2 (some .int) :: ws) ({ frames := 2, cells := 0, slots := 0, locals := 27 } : Room)) (fun a U => a = #[(.ref b840), (.int (0 : Int32))] ∧ Z.Warmed39 U.vm ∧ U.heap = h0) (fun _ _ _ _ _ => True) (fun _ U o U' => ∃ v L, o = .returned v ∧ Q_get8_3 Z b840 k51_846 b51_846 b221_849 p5 p1 p2 k221_849 h0 n0 v U'.heap L ∧ FrameEnd U o U' L ({ frames := 2, cells := 0, slots := 0, locals := 27 } : Room).cells ({ frames := 2, cells := 0, slots := 0, locals := 27 } : Room).slots) := by
  refine MetFree.of_bodySF (plainFor_of_name pn_2) hisR ?_
  intro p e s m args below meth c s₁ Bd hml0 hP hK
  have W := fun {d : Jvm.Cond} (i : Nat) (q : tables_1[i]? = some d) => hw d (List.mem_of_getElem? q)
  obtain ⟨rfl, hZ, hh⟩ := hP
  have hx := Bd.exec
  have hby := Bd.bytes
  have hml : c.maxLocals = 2 := hml0
  have hown : s.vm.findClass "org/reachwatch/IntBlocks" = some m.cls := findClass_of_methodNamed Bd.named
  have hnm := (name_of_methodNamed Bd.named Bd.method).1
  have X0 : Stand p l e ({ frames := 2, cells := 0, slots := 0, locals := 27 } : Room) s m #[(.ref b840), (.int (0 : Int32))] below meth c s₁ [] 0 0 := Stand.of_body Bd
  have e0 : s₁.heap = h0 := by rw [← hh, Bd.state]; rfl
  have N0 := Fr.nil n0
  have pre0 : ∀ t, Steps p.tables e below (s₁.setTop (mkF m 0 #[rv b840, iv (0 : Int32)] [])) t → Steps p.tables e below (s₁.setTop (entryFrame m #[(.ref b840), (.int (0 : Int32))] 2)) t := fun t k => castTop (ef_17 m b840 (0 : Int32)) k
  have K0 : Keep h0 h0 [] := Keep.refl h0 []
  have pre1131 : ∀ t, Steps p.tables e below (s₁.setTop (mkF m 2 #[rv b840, iv (0 : Int32)] [(.ref b840), (.int (0 : Int32))])) t → Steps p.tables e below (s₁.setTop (entryFrame m #[(.ref b840), (.int (0 : Int32))] 2)) t := fun t kt => by
    refine pre0 _ ?_
    show Steps p.tables e below (s₁.setTop (mkF m 0 #[rv b840, iv (0 : Int32)] [])) _
    refine XS.iloadN X0.here hx rfl (hb hby d8_0) rfl ?_
    show Steps p.tables e below (s₁.setTop (mkF m 1 #[rv b840, iv (0 : Int32)] [(.int (0 : Int32))])) _
    refine XS.aloadN X0.here hx rfl (hb hby d8_1) rfl rfl ?_
    exact kt
  obtain ⟨T1132, X1132, e1132, st1132⟩ := getF X0 hx hZ hown (host := "") (Or.inl (W 19 rfl)) Via.refl e0 Fi2 (g := (mkF m 2 #[rv b840, iv (0 : Int32)] [(.ref b840), (.int (0 : Int32))])) rfl rfl (hb hby d8_2)
  have pre1133 : ∀ t, Steps p.tables e below (T1132.setTop (mkF m 5 #[rv b840, iv (0 : Int32)] [(.int (3 : Int32)), (.int (0 : Int32))])) t → Steps p.tables e below (s₁.setTop (entryFrame m #[(.ref b840), (.int (0 : Int32))] 2)) t := fun t kt => pre1131 _ (st1132 _ kt)
  obtain ⟨_, _, ⟨T1134, L1134, k1134, n1134⟩, -, X1134, ⟨Lc1134, hQ1134, l1134, y1134, z1134⟩, st1134⟩ := Jvm.LawKit.callS X1132 hx (y := (⟨"java/util/Objects", "checkIndex", "(II)I"⟩ : MethodName)) hown (mvT hZ (W 29 rfl)) (mvT hZ (W 30 rfl)) (mvT hZ (W 31 rfl)) (mvT hZ (W 32 rfl)) (by decide) (backOf (W := 0) (rm_checkIndex5_3 l Z a0 hw [] h0 n0 O0) hZ (W 32 rfl) (W 31 rfl) (by decide) (by decide)) (g := (mkF m 5 #[rv b840, iv (0 : Int32)] [(.int (3 : Int32)), (.int (0 : Int32))])) rfl (by rw [hml]; rfl) (argsL := [(.int (0 : Int32)), (.int (3 : Int32))]) (rest := []) (lenOf pd_12 rfl) rfl (by show 2 * 0 + _ ≤ _; exact Nat.le_of_eq rfl) (hb hby d8_5) (fun _ _ => ⟨rfl, e1132, (by decide : 0 + 0 ≤ _), (by decide : 0 + 0 ≤ _)⟩)
  dsimp only [Pt.U, Pt.locs, Pt.cells, Pt.slots] at X1134 l1134 y1134 z1134 st1134 hQ1134
  replace l1134 := l1134.symm
  replace y1134 : 0 = k1134 := y1134.symm
  replace z1134 : 0 = n1134 := z1134.symm
  subst l1134 y1134 z1134
  obtain ⟨rfl, M1134, e1134⟩ := hQ1134
  have N1134 := Fr.app N0 M1134
  have pre1135 : ∀ t, Steps p.tables e below (T1134.setTop (mkF m 8 #[rv b840, iv (0 : Int32)] [(.int (0 : Int32))])) t → Steps p.tables e below (s₁.setTop (entryFrame m #[(.ref b840), (.int (0 : Int32))] 2)) t := fun t kt => pre1133 _ (st1134 _ kt)
  have pre1136 : ∀ t, Steps p.tables e below (T1134.setTop (mkF m 10 #[rv b840, iv (0 : Int32)] [(.ref b840)])) t → Steps p.tables e below (s₁.setTop (entryFrame m #[(.ref b840), (.int (0 : Int32))] 2)) t := fun t kt => by
    refine pre1135 _ ?_
    show Steps p.tables e below (T1134.setTop (mkF m 8 #[rv b840, iv (0 : Int32)] [(.int (0 : Int32))])) _
    refine XS.pop X1134.here hx rfl (hb hby d8_8) rfl rfl ?_
    show Steps p.tables e below (T1134.setTop (mkF m 9 #[rv b840, iv (0 : Int32)] [])) _
    refine XS.aloadN X1134.here hx rfl (hb hby d8_9) rfl rfl ?_
    exact kt
  obtain ⟨T1137, X1137, e1137, st1137⟩ := getF X1134 hx hZ hown (host := "") (Or.inl (W 12 rfl)) Via.refl e1134 Fi1 (g := (mkF m 10 #[rv b840, iv (0 : Int32)] [(.ref b840)])) rfl rfl (hb hby d8_10)
  have pre1138 : ∀ t, Steps p.tables e below (T1137.setTop (mkF m 13 #[rv b840, iv (0 : Int32)] [(.ref b51_846)])) t → Steps p.tables e below (s₁.setTop (entryFrame m #[(.ref b840), (.int (0 : Int32))] 2)) t := fun t kt => pre1136 _ (st1137 _ kt)
  have pre1140 : ∀ t, Steps p.tables e below (T1137.setTop (mkF m 17 #[rv b840, iv (0 : Int32)] [(.int (0 : Int32)), (.ref b51_846)])) t → Steps p.tables e below (s₁.setTop (entryFrame m #[(.ref b840), (.int (0 : Int32))] 2)) t := fun t kt => by
    refine pre1138 _ ?_
    show Steps p.tables e below (T1137.setTop (mkF m 13 #[rv b840, iv (0 : Int32)] [(.ref b51_846)])) _
    refine XS.iloadN X1137.here hx rfl (hb hby d8_13) rfl ?_
    show Steps p.tables e below (T1137.setTop (mkF m 14 #[rv b840, iv (0 : Int32)] [(.int (0 : Int32)), (.ref b51_846)])) _
    refine X1137.ldcInt hx hown (mvT hZ (W 21 rfl)) (g := (mkF m 14 #[rv b840, iv (0 : Int32)] [(.int (0 : Int32)), (.ref b51_846)])) rfl (hb hby d8_14) _ ?_
    show Steps p.tables e below (T1137.setTop (mkF m 16 #[rv b840, iv (0 : Int32)] [(.int (65536 : Int32)), (.int (0 : Int32)), (.ref b51_846)])) _
    refine XS.idiv X1137.here hx rfl (hb hby d8_16) rfl (by decide) ?_
    show  Steps p.tables e below (T1137.setTop (mkF m 17 #[rv b840, iv (0 : Int32)] [(.int ((0 : Int32) / (65536 : Int32))), (.ref b51_846)])) _
    rw [(by decide : (((0 : Int32) / (65536 : Int32)) : Int32) = (0 : Int32))]
    exact kt
  obtain ⟨c1139, Ar1139, q1139, S1139, M1139, H1139, G1139⟩ := id Fi0
  have i1139 : ¬ ((0 : Int32) < 0 ∨ c1139.slots.size ≤ ((0 : Int32)).toNatClampNeg) := inb_of S1139 ⟨by decide, by decide⟩
  have t1139 : c1139.slots[((0 : Int32)).toNatClampNeg]? = some (.ref b221_849) := Has.at H1139 i1139 rfl
  have pre1142 : ∀ t, Steps p.tables e below (T1137.setTop (mkF m 22 #[rv b840, iv (0 : Int32)] [(.int (0 : Int32)), (.ref b221_849)])) t → Steps p.tables e below (s₁.setTop (entryFrame m #[(.ref b840), (.int (0 : Int32))] 2)) t := fun t kt => by
    refine pre1140 _ ?_
    show Steps p.tables e below (T1137.setTop (mkF m 17 #[rv b840, iv (0 : Int32)] [(.int (0 : Int32)), (.ref b51_846)])) _
    refine X1137.aaload hx (j := (0 : Int32)) (v := (.ref b221_849)) (by rw [e1137]; exact Ar1139.1) (State.isArrayOf_alike hZ.alike Ar1139.2.1) rfl Ar1139.2.2 i1139 t1139 (g := (mkF m 17 #[rv b840, iv (0 : Int32)] [(.int (0 : Int32)), (.ref b51_846)])) rfl rfl (hb hby d8_17) _ ?_
    show Steps p.tables e below (T1137.setTop (mkF m 18 #[rv b840, iv (0 : Int32)] [(.ref b221_849)])) _
    refine XS.iloadN X1137.here hx rfl (hb hby d8_18) rfl ?_
    show Steps p.tables e below (T1137.setTop (mkF m 19 #[rv b840, iv (0 : Int32)] [(.int (0 : Int32)), (.ref b221_849)])) _
    refine X1137.ldcInt hx hown (mvT hZ (W 21 rfl)) (g := (mkF m 19 #[rv b840, iv (0 : Int32)] [(.int (0 : Int32)), (.ref b221_849)])) rfl (hb hby d8_19) _ ?_
    show Steps p.tables e below (T1137.setTop (mkF m 21 #[rv b840, iv (0 : Int32)] [(.int (65536 : Int32)), (.int (0 : Int32)), (.ref b221_849)])) _
    refine XS.irem X1137.here hx rfl (hb hby d8_21) rfl (by decide) ?_
    show  Steps p.tables e below (T1137.setTop (mkF m 22 #[rv b840, iv (0 : Int32)] [(.int ((0 : Int32) - ((0 : Int32) / (65536 : Int32)) * (65536 : Int32))), (.ref b221_849)])) _
    rw [(by decide : (((0 : Int32) - ((0 : Int32) / (65536 : Int32)) * (65536 : Int32)) : Int32) = (0 : Int32))]
    exact kt
  obtain ⟨c1141, Ar1141, q1141, S1141, M1141, H1141, G1141⟩ := id Fi3
  have i1141 : ¬ ((0 : Int32) < 0 ∨ c1141.slots.size ≤ ((0 : Int32)).toNatClampNeg) := inb_of S1141 ⟨by decide, by decide⟩
  have t1141 : c1141.slots[((0 : Int32)).toNatClampNeg]? = some (.int p5) := Has.at H1141 i1141 rfl
  have pre1143 : ∀ t, Steps p.tables e below (T1137.setTop (mkF m 23 #[rv b840, iv (0 : Int32)] [(.int p5)])) t → Steps p.tables e below (s₁.setTop (entryFrame m #[(.ref b840), (.int (0 : Int32))] 2)) t := fun t kt => by
    refine pre1142 _ ?_
    show Steps p.tables e below (T1137.setTop (mkF m 22 #[rv b840, iv (0 : Int32)] [(.int (0 : Int32)), (.ref b221_849)])) _
    refine X1137.iaload hx (j := (0 : Int32)) (v := (.int p5)) (by rw [e1137]; exact Ar1141.1) (State.isArrayOf_alike hZ.alike Ar1141.2.1) Ar1141.2.2 i1141 t1141 (g := (mkF m 22 #[rv b840, iv (0 : Int32)] [(.int (0 : Int32)), (.ref b221_849)])) rfl rfl (hb hby d8_22) _ ?_
    exact kt
  obtain ⟨fs, hr, hrun, hended, hW, hsame⟩ := X1137.leave (v := some (.int p5)) (fun h => by rw [Bd.returns] at h; cases h)
  refine ⟨_, _, pre1143 _ (retI X1137 hx Bd.returns (hb hby d8_23) hr), hrun, hended, _, _, rfl, ?_, ⟨_, rfl⟩, hW, hsame.mono (by decide) (by decide)⟩
  show Q_get8_3 Z b840 k51_846 b51_846 b221_849 p5 p1 p2 k221_849 h0 n0 _ T1137.heap _
  rw [e1137]
  exact ⟨rfl, N1134, rfl⟩
def Q_checkIndex6_4 (Z : State)  (h0 : Heap) (n0 : Nat) (v : Option Value) (h : Heap) (L : List Loc) : Prop := v = some (.int (1 : Int32)) ∧ Fr n0 L ∧ h = h0
set_option maxRecDepth 65536 in
set_option maxHeartbeats 40000000 in
theorem rm_checkIndex6_4 (l : Launch) (Z : State) (a0 : Array Value) (hw : ∀ d ∈ tables_1, d.before a0 Z = true) (ws : List Jvm.Cond)  (h0 : Heap) (n0 : Nat) (O0 : Old Z n0 h0) :
    MetFree l (⟨"jdk/internal/util/Preconditions", "checkIndex", "(IILjava/util/function/BiFunction;)I"⟩ : MethodName) (head1 (Jvm.Cond.code (⟨"jdk/internal/util/Preconditions", "checkIndex", "(IILjava/util/function/BiFunction;)I"⟩ : MethodName) jdk_41_method_11_code 3 (some .int) :: ws) ({ frames := 0, cells := 0, slots := 0, locals := 0 } : Room)) (fun a U => a = #[(.int (1 : Int32)), (.int (3 : Int32)), .null] ∧ Z.Warmed39 U.vm ∧ U.heap = h0) (fun _ _ _ _ _ => True) (fun _ U o U' => ∃ v L, o = .returned v ∧ Q_checkIndex6_4 Z  h0 n0 v U'.heap L ∧ FrameEnd U o U' L ({ frames := 0, cells := 0, slots := 0, locals := 0 } : Room).cells ({ frames := 0, cells := 0, slots := 0, locals := 0 } : Room).slots) := by
  refine MetFree.of_bodySF (plainFor_of_name pn_7) hisR ?_
  intro p e s m args below meth c s₁ Bd hml0 hP hK
  have W := fun {d : Jvm.Cond} (i : Nat) (q : tables_1[i]? = some d) => hw d (List.mem_of_getElem? q)
  obtain ⟨rfl, hZ, hh⟩ := hP
  have hx := Bd.exec
  have hby := Bd.bytes
  have hml : c.maxLocals = 3 := hml0
  have hown : s.vm.findClass "jdk/internal/util/Preconditions" = some m.cls := findClass_of_methodNamed Bd.named
  have hnm := (name_of_methodNamed Bd.named Bd.method).1
  have X0 : Stand p l e ({ frames := 0, cells := 0, slots := 0, locals := 0 } : Room) s m #[(.int (1 : Int32)), (.int (3 : Int32)), .null] below meth c s₁ [] 0 0 := Stand.of_body Bd
  have e0 : s₁.heap = h0 := by rw [← hh, Bd.state]; rfl
  have N0 := Fr.nil n0
  have pre0 : ∀ t, Steps p.tables e below (s₁.setTop (mkF m 0 #[iv (1 : Int32), iv (3 : Int32), .val .null] [])) t → Steps p.tables e below (s₁.setTop (entryFrame m #[(.int (1 : Int32)), (.int (3 : Int32)), .null] 3)) t := fun t k => castTop (ef_8 m (1 : Int32) (3 : Int32)) k
  have K0 : Keep h0 h0 [] := Keep.refl h0 []
  have pre1155 : ∀ t, Steps p.tables e below (s₁.setTop (mkF m 17 #[iv (1 : Int32), iv (3 : Int32), .val .null] [(.int (1 : Int32))])) t → Steps p.tables e below (s₁.setTop (entryFrame m #[(.int (1 : Int32)), (.int (3 : Int32)), .null] 3)) t := fun t kt => by
    refine pre0 _ ?_
    show Steps p.tables e below (s₁.setTop (mkF m 0 #[iv (1 : Int32), iv (3 : Int32), .val .null] [])) _
    refine XS.iloadN X0.here hx rfl (hb hby d6_0) rfl ?_
    show Steps p.tables e below (s₁.setTop (mkF m 1 #[iv (1 : Int32), iv (3 : Int32), .val .null] [(.int (1 : Int32))])) _
    refine XS.ifNo X0.here hx rfl (hb hby d6_1) rfl (XT.i0_lt_f (by decide)) ?_
    show Steps p.tables e below (s₁.setTop (mkF m 4 #[iv (1 : Int32), iv (3 : Int32), .val .null] [])) _
    refine XS.iloadN X0.here hx rfl (hb hby d6_4) rfl ?_
    show Steps p.tables e below (s₁.setTop (mkF m 5 #[iv (1 : Int32), iv (3 : Int32), .val .null] [(.int (1 : Int32))])) _
    refine XS.iloadN X0.here hx rfl (hb hby d6_5) rfl ?_
    show Steps p.tables e below (s₁.setTop (mkF m 6 #[iv (1 : Int32), iv (3 : Int32), .val .null] [(.int (3 : Int32)), (.int (1 : Int32))])) _
    refine XS.icmpYes X0.here hx rfl (pc0 := 6) (pc' := 16) rfl (hb hby d6_6) rfl (XT.ii_lt_t (by decide)) (by decide) (by decide) ?_
    show Steps p.tables e below (s₁.setTop (mkF m 16 #[iv (1 : Int32), iv (3 : Int32), .val .null] [])) _
    refine XS.iloadN X0.here hx rfl (hb hby d6_16) rfl ?_
    exact kt
  obtain ⟨fs, hr, hrun, hended, hW, hsame⟩ := X0.leave (v := some (.int (1 : Int32))) (fun h => by rw [Bd.returns] at h; cases h)
  refine ⟨_, _, pre1155 _ (retI X0 hx Bd.returns (hb hby d6_17) hr), hrun, hended, _, _, rfl, ?_, ⟨_, rfl⟩, hW, hsame.mono (by decide) (by decide)⟩
  show Q_checkIndex6_4 Z  h0 n0 _ s₁.heap _
  rw [e0]
  exact ⟨rfl, N0, rfl⟩
def Q_checkIndex5_4 (Z : State)  (h0 : Heap) (n0 : Nat) (v : Option Value) (h : Heap) (L : List Loc) : Prop := v = some (.int (1 : Int32)) ∧ Fr n0 L ∧ h = h0
set_option maxRecDepth 65536 in
set_option maxHeartbeats 40000000 in
theorem rm_checkIndex5_4 (l : Launch) (Z : State) (a0 : Array Value) (hw : ∀ d ∈ tables_1, d.before a0 Z = true) (ws : List Jvm.Cond)  (h0 : Heap) (n0 : Nat) (O0 : Old Z n0 h0) :
    MetFree l (⟨"java/util/Objects", "checkIndex", "(II)I"⟩ : MethodName) (head1 (Jvm.Cond.code (⟨"java/util/Objects", "checkIndex", "(II)I"⟩ : MethodName) jdk_31_method_17_code 2 (some .int) :: ws) ({ frames := 1, cells := 0, slots := 0, locals := 14 } : Room)) (fun a U => a = #[(.int (1 : Int32)), (.int (3 : Int32))] ∧ Z.Warmed39 U.vm ∧ U.heap = h0) (fun _ _ _ _ _ => True) (fun _ U o U' => ∃ v L, o = .returned v ∧ Q_checkIndex5_4 Z  h0 n0 v U'.heap L ∧ FrameEnd U o U' L ({ frames := 1, cells := 0, slots := 0, locals := 14 } : Room).cells ({ frames := 1, cells := 0, slots := 0, locals := 14 } : Room).slots) := by
  refine MetFree.of_bodySF (plainFor_of_name pn_10) hisR ?_
  intro p e s m args below meth c s₁ Bd hml0 hP hK
  have W := fun {d : Jvm.Cond} (i : Nat) (q : tables_1[i]? = some d) => hw d (List.mem_of_getElem? q)
  obtain ⟨rfl, hZ, hh⟩ := hP
  have hx := Bd.exec
  have hby := Bd.bytes
  have hml : c.maxLocals = 2 := hml0
  have hown : s.vm.findClass "java/util/Objects" = some m.cls := findClass_of_methodNamed Bd.named
  have hnm := (name_of_methodNamed Bd.named Bd.method).1
  have X0 : Stand p l e ({ frames := 1, cells := 0, slots := 0, locals := 14 } : Room) s m #[(.int (1 : Int32)), (.int (3 : Int32))] below meth c s₁ [] 0 0 := Stand.of_body Bd
  have e0 : s₁.heap = h0 := by rw [← hh, Bd.state]; rfl
  have N0 := Fr.nil n0
  have pre0 : ∀ t, Steps p.tables e below (s₁.setTop (mkF m 0 #[iv (1 : Int32), iv (3 : Int32)] [])) t → Steps p.tables e below (s₁.setTop (entryFrame m #[(.int (1 : Int32)), (.int (3 : Int32))] 2)) t := fun t k => castTop (ef_11 m (1 : Int32) (3 : Int32)) k
  have K0 : Keep h0 h0 [] := Keep.refl h0 []
  have pre1160 : ∀ t, Steps p.tables e below (s₁.setTop (mkF m 3 #[iv (1 : Int32), iv (3 : Int32)] [.null, (.int (3 : Int32)), (.int (1 : Int32))])) t → Steps p.tables e below (s₁.setTop (entryFrame m #[(.int (1 : Int32)), (.int (3 : Int32))] 2)) t := fun t kt => by
    refine pre0 _ ?_
    show Steps p.tables e below (s₁.setTop (mkF m 0 #[iv (1 : Int32), iv (3 : Int32)] [])) _
    refine XS.iloadN X0.here hx rfl (hb hby d5_0) rfl ?_
    show Steps p.tables e below (s₁.setTop (mkF m 1 #[iv (1 : Int32), iv (3 : Int32)] [(.int (1 : Int32))])) _
    refine XS.iloadN X0.here hx rfl (hb hby d5_1) rfl ?_
    show Steps p.tables e below (s₁.setTop (mkF m 2 #[iv (1 : Int32), iv (3 : Int32)] [(.int (3 : Int32)), (.int (1 : Int32))])) _
    refine XS.aconstNull X0.here hx rfl (hb hby d5_2) ?_
    exact kt
  obtain ⟨_, _, ⟨T1161, L1161, k1161, n1161⟩, -, X1161, ⟨Lc1161, hQ1161, l1161, y1161, z1161⟩, st1161⟩ := Jvm.LawKit.callS X0 hx (y := (⟨"jdk/internal/util/Preconditions", "checkIndex", "(IILjava/util/function/BiFunction;)I"⟩ : MethodName)) hown (mvT hZ (W 33 rfl)) (mvT hZ (W 34 rfl)) (mvT hZ (W 35 rfl)) (mvT hZ (W 36 rfl)) (by decide) (backOf (W := 0) (rm_checkIndex6_4 l Z a0 hw [] h0 n0 O0) hZ (W 36 rfl) (W 35 rfl) (by decide) (by decide)) (g := (mkF m 3 #[iv (1 : Int32), iv (3 : Int32)] [.null, (.int (3 : Int32)), (.int (1 : Int32))])) rfl (by rw [hml]; rfl) (argsL := [(.int (1 : Int32)), (.int (3 : Int32)), .null]) (rest := []) (lenOf pd_9 rfl) rfl (by show 2 * 0 + _ ≤ _; exact Nat.le_of_eq rfl) (hb hby d5_3) (fun _ _ => ⟨rfl, e0, (by decide : 0 + 0 ≤ _), (by decide : 0 + 0 ≤ _)⟩)
  dsimp only [Pt.U, Pt.locs, Pt.cells, Pt.slots] at X1161 l1161 y1161 z1161 st1161 hQ1161
  replace l1161 := l1161.symm
  replace y1161 : 0 = k1161 := y1161.symm
  replace z1161 : 0 = n1161 := z1161.symm
  subst l1161 y1161 z1161
  obtain ⟨rfl, M1161, e1161⟩ := hQ1161
  have N1161 := Fr.app N0 M1161
  have pre1162 : ∀ t, Steps p.tables e below (T1161.setTop (mkF m 6 #[iv (1 : Int32), iv (3 : Int32)] [(.int (1 : Int32))])) t → Steps p.tables e below (s₁.setTop (entryFrame m #[(.int (1 : Int32)), (.int (3 : Int32))] 2)) t := fun t kt => pre1160 _ (st1161 _ kt)
  obtain ⟨fs, hr, hrun, hended, hW, hsame⟩ := X1161.leave (v := some (.int (1 : Int32))) (fun h => by rw [Bd.returns] at h; cases h)
  refine ⟨_, _, pre1162 _ (retI X1161 hx Bd.returns (hb hby d5_6) hr), hrun, hended, _, _, rfl, ?_, ⟨_, rfl⟩, hW, hsame.mono (by decide) (by decide)⟩
  show Q_checkIndex5_4 Z  h0 n0 _ T1161.heap _
  rw [e1161]
  exact ⟨rfl, N1161, rfl⟩
def Q_get8_4 (Z : State) (b840 : Addr) (k51_846 : ClassId) (b51_846 : Addr) (b221_849 : Addr) (p5 : Int32) (p1 : Int32) (p2 : Int32) (k221_849 : ClassId) (h0 : Heap) (n0 : Nat) (v : Option Value) (h : Heap) (L : List Loc) : Prop := v = some (.int p1) ∧ Fr n0 L ∧ h = h0
set_option maxRecDepth 65536 in
set_option maxHeartbeats 40000000 in
theorem rm_get8_4 (l : Launch) (Z : State) (a0 : Array Value) (hw : ∀ d ∈ tables_1, d.before a0 Z = true) (ws : List Jvm.Cond) (b840 : Addr) (k51_846 : ClassId) (b51_846 : Addr) (b221_849 : Addr) (p5 : Int32) (p1 : Int32) (p2 : Int32) (k221_849 : ClassId) (h0 : Heap) (n0 : Nat) (O0 : Old Z n0 h0) (Fi0 : Arv Z h0 b51_846 k51_846 (.array .int) (1 : Int32) [(.ref b221_849)] .null) (Fi1 : Fld Z h0 b840 "org/reachwatch/IntBlocks" "blocks" "[[I" (.ref b51_846)) (Fi2 : Fld Z h0 b840 "org/reachwatch/IntBlocks" "size" "I" (.int (3 : Int32))) (Fi3 : Arv Z h0 b221_849 k221_849 .int (16 : Int32) [(.int p5), (.int p1), (.int p2), (.int (0 : Int32)), (.int (0 : Int32)), (.int (0 : Int32)), (.int (0 : Int32)), (.int (0 : Int32)), (.int (0 : Int32)), (.int (0 : Int32)), (.int (0 : Int32)), (.int (0 : Int32)), (.int (0 : Int32)), (.int (0 : Int32)), (.int (0 : Int32)), (.int (0 : Int32))] (.int (0 : Int32))) :
    MetFree l (⟨"org/reachwatch/IntBlocks", "get", "(I)I"⟩ : MethodName) (head1 (Jvm.Cond.code (⟨"org/reachwatch/IntBlocks", "get", "(I)I"⟩ : MethodName) prog_56_method_3_code 2 (some .int) :: ws) ({ frames := 2, cells := 0, slots := 0, locals := 27 } : Room)) (fun a U => a = #[(.ref b840), (.int (1 : Int32))] ∧ Z.Warmed39 U.vm ∧ U.heap = h0) (fun _ _ _ _ _ => True) (fun _ U o U' => ∃ v L, o = .returned v ∧ Q_get8_4 Z b840 k51_846 b51_846 b221_849 p5 p1 p2 k221_849 h0 n0 v U'.heap L ∧ FrameEnd U o U' L ({ frames := 2, cells := 0, slots := 0, locals := 27 } : Room).cells ({ frames := 2, cells := 0, slots := 0, locals := 27 } : Room).slots) := by
  refine MetFree.of_bodySF (plainFor_of_name pn_2) hisR ?_
  intro p e s m args below meth c s₁ Bd hml0 hP hK
  have W := fun {d : Jvm.Cond} (i : Nat) (q : tables_1[i]? = some d) => hw d (List.mem_of_getElem? q)
  obtain ⟨rfl, hZ, hh⟩ := hP
  have hx := Bd.exec
  have hby := Bd.bytes
  have hml : c.maxLocals = 2 := hml0
  have hown : s.vm.findClass "org/reachwatch/IntBlocks" = some m.cls := findClass_of_methodNamed Bd.named
  have hnm := (name_of_methodNamed Bd.named Bd.method).1
  have X0 : Stand p l e ({ frames := 2, cells := 0, slots := 0, locals := 27 } : Room) s m #[(.ref b840), (.int (1 : Int32))] below meth c s₁ [] 0 0 := Stand.of_body Bd
  have e0 : s₁.heap = h0 := by rw [← hh, Bd.state]; rfl
  have N0 := Fr.nil n0
  have pre0 : ∀ t, Steps p.tables e below (s₁.setTop (mkF m 0 #[rv b840, iv (1 : Int32)] [])) t → Steps p.tables e below (s₁.setTop (entryFrame m #[(.ref b840), (.int (1 : Int32))] 2)) t := fun t k => castTop (ef_17 m b840 (1 : Int32)) k
  have K0 : Keep h0 h0 [] := Keep.refl h0 []
  have pre1185 : ∀ t, Steps p.tables e below (s₁.setTop (mkF m 2 #[rv b840, iv (1 : Int32)] [(.ref b840), (.int (1 : Int32))])) t → Steps p.tables e below (s₁.setTop (entryFrame m #[(.ref b840), (.int (1 : Int32))] 2)) t := fun t kt => by
    refine pre0 _ ?_
    show Steps p.tables e below (s₁.setTop (mkF m 0 #[rv b840, iv (1 : Int32)] [])) _
    refine XS.iloadN X0.here hx rfl (hb hby d8_0) rfl ?_
    show Steps p.tables e below (s₁.setTop (mkF m 1 #[rv b840, iv (1 : Int32)] [(.int (1 : Int32))])) _
    refine XS.aloadN X0.here hx rfl (hb hby d8_1) rfl rfl ?_
    exact kt
  obtain ⟨T1186, X1186, e1186, st1186⟩ := getF X0 hx hZ hown (host := "") (Or.inl (W 19 rfl)) Via.refl e0 Fi2 (g := (mkF m 2 #[rv b840, iv (1 : Int32)] [(.ref b840), (.int (1 : Int32))])) rfl rfl (hb hby d8_2)
  have pre1187 : ∀ t, Steps p.tables e below (T1186.setTop (mkF m 5 #[rv b840, iv (1 : Int32)] [(.int (3 : Int32)), (.int (1 : Int32))])) t → Steps p.tables e below (s₁.setTop (entryFrame m #[(.ref b840), (.int (1 : Int32))] 2)) t := fun t kt => pre1185 _ (st1186 _ kt)
  obtain ⟨_, _, ⟨T1188, L1188, k1188, n1188⟩, -, X1188, ⟨Lc1188, hQ1188, l1188, y1188, z1188⟩, st1188⟩ := Jvm.LawKit.callS X1186 hx (y := (⟨"java/util/Objects", "checkIndex", "(II)I"⟩ : MethodName)) hown (mvT hZ (W 29 rfl)) (mvT hZ (W 30 rfl)) (mvT hZ (W 31 rfl)) (mvT hZ (W 32 rfl)) (by decide) (backOf (W := 0) (rm_checkIndex5_4 l Z a0 hw [] h0 n0 O0) hZ (W 32 rfl) (W 31 rfl) (by decide) (by decide)) (g := (mkF m 5 #[rv b840, iv (1 : Int32)] [(.int (3 : Int32)), (.int (1 : Int32))])) rfl (by rw [hml]; rfl) (argsL := [(.int (1 : Int32)), (.int (3 : Int32))]) (rest := []) (lenOf pd_12 rfl) rfl (by show 2 * 0 + _ ≤ _; exact Nat.le_of_eq rfl) (hb hby d8_5) (fun _ _ => ⟨rfl, e1186, (by decide : 0 + 0 ≤ _), (by decide : 0 + 0 ≤ _)⟩)
  dsimp only [Pt.U, Pt.locs, Pt.cells, Pt.slots] at X1188 l1188 y1188 z1188 st1188 hQ1188
  replace l1188 := l1188.symm
  replace y1188 : 0 = k1188 := y1188.symm
  replace z1188 : 0 = n1188 := z1188.symm
  subst l1188 y1188 z1188
  obtain ⟨rfl, M1188, e1188⟩ := hQ1188
  have N1188 := Fr.app N0 M1188
  have pre1189 : ∀ t, Steps p.tables e below (T1188.setTop (mkF m 8 #[rv b840, iv (1 : Int32)] [(.int (1 : Int32))])) t → Steps p.tables e below (s₁.setTop (entryFrame m #[(.ref b840), (.int (1 : Int32))] 2)) t := fun t kt => pre1187 _ (st1188 _ kt)
  have pre1190 : ∀ t, Steps p.tables e below (T1188.setTop (mkF m 10 #[rv b840, iv (1 : Int32)] [(.ref b840)])) t → Steps p.tables e below (s₁.setTop (entryFrame m #[(.ref b840), (.int (1 : Int32))] 2)) t := fun t kt => by
    refine pre1189 _ ?_
    show Steps p.tables e below (T1188.setTop (mkF m 8 #[rv b840, iv (1 : Int32)] [(.int (1 : Int32))])) _
    refine XS.pop X1188.here hx rfl (hb hby d8_8) rfl rfl ?_
    show Steps p.tables e below (T1188.setTop (mkF m 9 #[rv b840, iv (1 : Int32)] [])) _
    refine XS.aloadN X1188.here hx rfl (hb hby d8_9) rfl rfl ?_
    exact kt
  obtain ⟨T1191, X1191, e1191, st1191⟩ := getF X1188 hx hZ hown (host := "") (Or.inl (W 12 rfl)) Via.refl e1188 Fi1 (g := (mkF m 10 #[rv b840, iv (1 : Int32)] [(.ref b840)])) rfl rfl (hb hby d8_10)
  have pre1192 : ∀ t, Steps p.tables e below (T1191.setTop (mkF m 13 #[rv b840, iv (1 : Int32)] [(.ref b51_846)])) t → Steps p.tables e below (s₁.setTop (entryFrame m #[(.ref b840), (.int (1 : Int32))] 2)) t := fun t kt => pre1190 _ (st1191 _ kt)
  have pre1194 : ∀ t, Steps p.tables e below (T1191.setTop (mkF m 17 #[rv b840, iv (1 : Int32)] [(.int (0 : Int32)), (.ref b51_846)])) t → Steps p.tables e below (s₁.setTop (entryFrame m #[(.ref b840), (.int (1 : Int32))] 2)) t := fun t kt => by
    refine pre1192 _ ?_
    show Steps p.tables e below (T1191.setTop (mkF m 13 #[rv b840, iv (1 : Int32)] [(.ref b51_846)])) _
    refine XS.iloadN X1191.here hx rfl (hb hby d8_13) rfl ?_
    show Steps p.tables e below (T1191.setTop (mkF m 14 #[rv b840, iv (1 : Int32)] [(.int (1 : Int32)), (.ref b51_846)])) _
    refine X1191.ldcInt hx hown (mvT hZ (W 21 rfl)) (g := (mkF m 14 #[rv b840, iv (1 : Int32)] [(.int (1 : Int32)), (.ref b51_846)])) rfl (hb hby d8_14) _ ?_
    show Steps p.tables e below (T1191.setTop (mkF m 16 #[rv b840, iv (1 : Int32)] [(.int (65536 : Int32)), (.int (1 : Int32)), (.ref b51_846)])) _
    refine XS.idiv X1191.here hx rfl (hb hby d8_16) rfl (by decide) ?_
    show  Steps p.tables e below (T1191.setTop (mkF m 17 #[rv b840, iv (1 : Int32)] [(.int ((1 : Int32) / (65536 : Int32))), (.ref b51_846)])) _
    rw [(by decide : (((1 : Int32) / (65536 : Int32)) : Int32) = (0 : Int32))]
    exact kt
  obtain ⟨c1193, Ar1193, q1193, S1193, M1193, H1193, G1193⟩ := id Fi0
  have i1193 : ¬ ((0 : Int32) < 0 ∨ c1193.slots.size ≤ ((0 : Int32)).toNatClampNeg) := inb_of S1193 ⟨by decide, by decide⟩
  have t1193 : c1193.slots[((0 : Int32)).toNatClampNeg]? = some (.ref b221_849) := Has.at H1193 i1193 rfl
  have pre1196 : ∀ t, Steps p.tables e below (T1191.setTop (mkF m 22 #[rv b840, iv (1 : Int32)] [(.int (1 : Int32)), (.ref b221_849)])) t → Steps p.tables e below (s₁.setTop (entryFrame m #[(.ref b840), (.int (1 : Int32))] 2)) t := fun t kt => by
    refine pre1194 _ ?_
    show Steps p.tables e below (T1191.setTop (mkF m 17 #[rv b840, iv (1 : Int32)] [(.int (0 : Int32)), (.ref b51_846)])) _
    refine X1191.aaload hx (j := (0 : Int32)) (v := (.ref b221_849)) (by rw [e1191]; exact Ar1193.1) (State.isArrayOf_alike hZ.alike Ar1193.2.1) rfl Ar1193.2.2 i1193 t1193 (g := (mkF m 17 #[rv b840, iv (1 : Int32)] [(.int (0 : Int32)), (.ref b51_846)])) rfl rfl (hb hby d8_17) _ ?_
    show Steps p.tables e below (T1191.setTop (mkF m 18 #[rv b840, iv (1 : Int32)] [(.ref b221_849)])) _
    refine XS.iloadN X1191.here hx rfl (hb hby d8_18) rfl ?_
    show Steps p.tables e below (T1191.setTop (mkF m 19 #[rv b840, iv (1 : Int32)] [(.int (1 : Int32)), (.ref b221_849)])) _
    refine X1191.ldcInt hx hown (mvT hZ (W 21 rfl)) (g := (mkF m 19 #[rv b840, iv (1 : Int32)] [(.int (1 : Int32)), (.ref b221_849)])) rfl (hb hby d8_19) _ ?_
    show Steps p.tables e below (T1191.setTop (mkF m 21 #[rv b840, iv (1 : Int32)] [(.int (65536 : Int32)), (.int (1 : Int32)), (.ref b221_849)])) _
    refine XS.irem X1191.here hx rfl (hb hby d8_21) rfl (by decide) ?_
    show  Steps p.tables e below (T1191.setTop (mkF m 22 #[rv b840, iv (1 : Int32)] [(.int ((1 : Int32) - ((1 : Int32) / (65536 : Int32)) * (65536 : Int32))), (.ref b221_849)])) _
    rw [(by decide : (((1 : Int32) - ((1 : Int32) / (65536 : Int32)) * (65536 : Int32)) : Int32) = (1 : Int32))]
    exact kt
  obtain ⟨c1195, Ar1195, q1195, S1195, M1195, H1195, G1195⟩ := id Fi3
  have i1195 : ¬ ((1 : Int32) < 0 ∨ c1195.slots.size ≤ ((1 : Int32)).toNatClampNeg) := inb_of S1195 ⟨by decide, by decide⟩
  have t1195 : c1195.slots[((1 : Int32)).toNatClampNeg]? = some (.int p1) := Has.at H1195 i1195 rfl
  have pre1197 : ∀ t, Steps p.tables e below (T1191.setTop (mkF m 23 #[rv b840, iv (1 : Int32)] [(.int p1)])) t → Steps p.tables e below (s₁.setTop (entryFrame m #[(.ref b840), (.int (1 : Int32))] 2)) t := fun t kt => by
    refine pre1196 _ ?_
    show Steps p.tables e below (T1191.setTop (mkF m 22 #[rv b840, iv (1 : Int32)] [(.int (1 : Int32)), (.ref b221_849)])) _
    refine X1191.iaload hx (j := (1 : Int32)) (v := (.int p1)) (by rw [e1191]; exact Ar1195.1) (State.isArrayOf_alike hZ.alike Ar1195.2.1) Ar1195.2.2 i1195 t1195 (g := (mkF m 22 #[rv b840, iv (1 : Int32)] [(.int (1 : Int32)), (.ref b221_849)])) rfl rfl (hb hby d8_22) _ ?_
    exact kt
  obtain ⟨fs, hr, hrun, hended, hW, hsame⟩ := X1191.leave (v := some (.int p1)) (fun h => by rw [Bd.returns] at h; cases h)
  refine ⟨_, _, pre1197 _ (retI X1191 hx Bd.returns (hb hby d8_23) hr), hrun, hended, _, _, rfl, ?_, ⟨_, rfl⟩, hW, hsame.mono (by decide) (by decide)⟩
  show Q_get8_4 Z b840 k51_846 b51_846 b221_849 p5 p1 p2 k221_849 h0 n0 _ T1191.heap _
  rw [e1191]
  exact ⟨rfl, N1188, rfl⟩
def Q_checkIndex6_5 (Z : State)  (h0 : Heap) (n0 : Nat) (v : Option Value) (h : Heap) (L : List Loc) : Prop := v = some (.int (2 : Int32)) ∧ Fr n0 L ∧ h = h0
set_option maxRecDepth 65536 in
set_option maxHeartbeats 40000000 in
theorem rm_checkIndex6_5 (l : Launch) (Z : State) (a0 : Array Value) (hw : ∀ d ∈ tables_1, d.before a0 Z = true) (ws : List Jvm.Cond)  (h0 : Heap) (n0 : Nat) (O0 : Old Z n0 h0) :
    MetFree l (⟨"jdk/internal/util/Preconditions", "checkIndex", "(IILjava/util/function/BiFunction;)I"⟩ : MethodName) (head1 (Jvm.Cond.code (⟨"jdk/internal/util/Preconditions", "checkIndex", "(IILjava/util/function/BiFunction;)I"⟩ : MethodName) jdk_41_method_11_code 3 (some .int) :: ws) ({ frames := 0, cells := 0, slots := 0, locals := 0 } : Room)) (fun a U => a = #[(.int (2 : Int32)), (.int (3 : Int32)), .null] ∧ Z.Warmed39 U.vm ∧ U.heap = h0) (fun _ _ _ _ _ => True) (fun _ U o U' => ∃ v L, o = .returned v ∧ Q_checkIndex6_5 Z  h0 n0 v U'.heap L ∧ FrameEnd U o U' L ({ frames := 0, cells := 0, slots := 0, locals := 0 } : Room).cells ({ frames := 0, cells := 0, slots := 0, locals := 0 } : Room).slots) := by
  refine MetFree.of_bodySF (plainFor_of_name pn_7) hisR ?_
  intro p e s m args below meth c s₁ Bd hml0 hP hK
  have W := fun {d : Jvm.Cond} (i : Nat) (q : tables_1[i]? = some d) => hw d (List.mem_of_getElem? q)
  obtain ⟨rfl, hZ, hh⟩ := hP
  have hx := Bd.exec
  have hby := Bd.bytes
  have hml : c.maxLocals = 3 := hml0
  have hown : s.vm.findClass "jdk/internal/util/Preconditions" = some m.cls := findClass_of_methodNamed Bd.named
  have hnm := (name_of_methodNamed Bd.named Bd.method).1
  have X0 : Stand p l e ({ frames := 0, cells := 0, slots := 0, locals := 0 } : Room) s m #[(.int (2 : Int32)), (.int (3 : Int32)), .null] below meth c s₁ [] 0 0 := Stand.of_body Bd
  have e0 : s₁.heap = h0 := by rw [← hh, Bd.state]; rfl
  have N0 := Fr.nil n0
  have pre0 : ∀ t, Steps p.tables e below (s₁.setTop (mkF m 0 #[iv (2 : Int32), iv (3 : Int32), .val .null] [])) t → Steps p.tables e below (s₁.setTop (entryFrame m #[(.int (2 : Int32)), (.int (3 : Int32)), .null] 3)) t := fun t k => castTop (ef_8 m (2 : Int32) (3 : Int32)) k
  have K0 : Keep h0 h0 [] := Keep.refl h0 []
  have pre1209 : ∀ t, Steps p.tables e below (s₁.setTop (mkF m 17 #[iv (2 : Int32), iv (3 : Int32), .val .null] [(.int (2 : Int32))])) t → Steps p.tables e below (s₁.setTop (entryFrame m #[(.int (2 : Int32)), (.int (3 : Int32)), .null] 3)) t := fun t kt => by
    refine pre0 _ ?_
    show Steps p.tables e below (s₁.setTop (mkF m 0 #[iv (2 : Int32), iv (3 : Int32), .val .null] [])) _
    refine XS.iloadN X0.here hx rfl (hb hby d6_0) rfl ?_
    show Steps p.tables e below (s₁.setTop (mkF m 1 #[iv (2 : Int32), iv (3 : Int32), .val .null] [(.int (2 : Int32))])) _
    refine XS.ifNo X0.here hx rfl (hb hby d6_1) rfl (XT.i0_lt_f (by decide)) ?_
    show Steps p.tables e below (s₁.setTop (mkF m 4 #[iv (2 : Int32), iv (3 : Int32), .val .null] [])) _
    refine XS.iloadN X0.here hx rfl (hb hby d6_4) rfl ?_
    show Steps p.tables e below (s₁.setTop (mkF m 5 #[iv (2 : Int32), iv (3 : Int32), .val .null] [(.int (2 : Int32))])) _
    refine XS.iloadN X0.here hx rfl (hb hby d6_5) rfl ?_
    show Steps p.tables e below (s₁.setTop (mkF m 6 #[iv (2 : Int32), iv (3 : Int32), .val .null] [(.int (3 : Int32)), (.int (2 : Int32))])) _
    refine XS.icmpYes X0.here hx rfl (pc0 := 6) (pc' := 16) rfl (hb hby d6_6) rfl (XT.ii_lt_t (by decide)) (by decide) (by decide) ?_
    show Steps p.tables e below (s₁.setTop (mkF m 16 #[iv (2 : Int32), iv (3 : Int32), .val .null] [])) _
    refine XS.iloadN X0.here hx rfl (hb hby d6_16) rfl ?_
    exact kt
  obtain ⟨fs, hr, hrun, hended, hW, hsame⟩ := X0.leave (v := some (.int (2 : Int32))) (fun h => by rw [Bd.returns] at h; cases h)
  refine ⟨_, _, pre1209 _ (retI X0 hx Bd.returns (hb hby d6_17) hr), hrun, hended, _, _, rfl, ?_, ⟨_, rfl⟩, hW, hsame.mono (by decide) (by decide)⟩
  show Q_checkIndex6_5 Z  h0 n0 _ s₁.heap _
  rw [e0]
  exact ⟨rfl, N0, rfl⟩
def Q_checkIndex5_5 (Z : State)  (h0 : Heap) (n0 : Nat) (v : Option Value) (h : Heap) (L : List Loc) : Prop := v = some (.int (2 : Int32)) ∧ Fr n0 L ∧ h = h0
set_option maxRecDepth 65536 in
set_option maxHeartbeats 40000000 in
theorem rm_checkIndex5_5 (l : Launch) (Z : State) (a0 : Array Value) (hw : ∀ d ∈ tables_1, d.before a0 Z = true) (ws : List Jvm.Cond)  (h0 : Heap) (n0 : Nat) (O0 : Old Z n0 h0) :
    MetFree l (⟨"java/util/Objects", "checkIndex", "(II)I"⟩ : MethodName) (head1 (Jvm.Cond.code (⟨"java/util/Objects", "checkIndex", "(II)I"⟩ : MethodName) jdk_31_method_17_code 2 (some .int) :: ws) ({ frames := 1, cells := 0, slots := 0, locals := 14 } : Room)) (fun a U => a = #[(.int (2 : Int32)), (.int (3 : Int32))] ∧ Z.Warmed39 U.vm ∧ U.heap = h0) (fun _ _ _ _ _ => True) (fun _ U o U' => ∃ v L, o = .returned v ∧ Q_checkIndex5_5 Z  h0 n0 v U'.heap L ∧ FrameEnd U o U' L ({ frames := 1, cells := 0, slots := 0, locals := 14 } : Room).cells ({ frames := 1, cells := 0, slots := 0, locals := 14 } : Room).slots) := by
  refine MetFree.of_bodySF (plainFor_of_name pn_10) hisR ?_
  intro p e s m args below meth c s₁ Bd hml0 hP hK
  have W := fun {d : Jvm.Cond} (i : Nat) (q : tables_1[i]? = some d) => hw d (List.mem_of_getElem? q)
  obtain ⟨rfl, hZ, hh⟩ := hP
  have hx := Bd.exec
  have hby := Bd.bytes
  have hml : c.maxLocals = 2 := hml0
  have hown : s.vm.findClass "java/util/Objects" = some m.cls := findClass_of_methodNamed Bd.named
  have hnm := (name_of_methodNamed Bd.named Bd.method).1
  have X0 : Stand p l e ({ frames := 1, cells := 0, slots := 0, locals := 14 } : Room) s m #[(.int (2 : Int32)), (.int (3 : Int32))] below meth c s₁ [] 0 0 := Stand.of_body Bd
  have e0 : s₁.heap = h0 := by rw [← hh, Bd.state]; rfl
  have N0 := Fr.nil n0
  have pre0 : ∀ t, Steps p.tables e below (s₁.setTop (mkF m 0 #[iv (2 : Int32), iv (3 : Int32)] [])) t → Steps p.tables e below (s₁.setTop (entryFrame m #[(.int (2 : Int32)), (.int (3 : Int32))] 2)) t := fun t k => castTop (ef_11 m (2 : Int32) (3 : Int32)) k
  have K0 : Keep h0 h0 [] := Keep.refl h0 []
  have pre1214 : ∀ t, Steps p.tables e below (s₁.setTop (mkF m 3 #[iv (2 : Int32), iv (3 : Int32)] [.null, (.int (3 : Int32)), (.int (2 : Int32))])) t → Steps p.tables e below (s₁.setTop (entryFrame m #[(.int (2 : Int32)), (.int (3 : Int32))] 2)) t := fun t kt => by
    refine pre0 _ ?_
    show Steps p.tables e below (s₁.setTop (mkF m 0 #[iv (2 : Int32), iv (3 : Int32)] [])) _
    refine XS.iloadN X0.here hx rfl (hb hby d5_0) rfl ?_
    show Steps p.tables e below (s₁.setTop (mkF m 1 #[iv (2 : Int32), iv (3 : Int32)] [(.int (2 : Int32))])) _
    refine XS.iloadN X0.here hx rfl (hb hby d5_1) rfl ?_
    show Steps p.tables e below (s₁.setTop (mkF m 2 #[iv (2 : Int32), iv (3 : Int32)] [(.int (3 : Int32)), (.int (2 : Int32))])) _
    refine XS.aconstNull X0.here hx rfl (hb hby d5_2) ?_
    exact kt
  obtain ⟨_, _, ⟨T1215, L1215, k1215, n1215⟩, -, X1215, ⟨Lc1215, hQ1215, l1215, y1215, z1215⟩, st1215⟩ := Jvm.LawKit.callS X0 hx (y := (⟨"jdk/internal/util/Preconditions", "checkIndex", "(IILjava/util/function/BiFunction;)I"⟩ : MethodName)) hown (mvT hZ (W 33 rfl)) (mvT hZ (W 34 rfl)) (mvT hZ (W 35 rfl)) (mvT hZ (W 36 rfl)) (by decide) (backOf (W := 0) (rm_checkIndex6_5 l Z a0 hw [] h0 n0 O0) hZ (W 36 rfl) (W 35 rfl) (by decide) (by decide)) (g := (mkF m 3 #[iv (2 : Int32), iv (3 : Int32)] [.null, (.int (3 : Int32)), (.int (2 : Int32))])) rfl (by rw [hml]; rfl) (argsL := [(.int (2 : Int32)), (.int (3 : Int32)), .null]) (rest := []) (lenOf pd_9 rfl) rfl (by show 2 * 0 + _ ≤ _; exact Nat.le_of_eq rfl) (hb hby d5_3) (fun _ _ => ⟨rfl, e0, (by decide : 0 + 0 ≤ _), (by decide : 0 + 0 ≤ _)⟩)
  dsimp only [Pt.U, Pt.locs, Pt.cells, Pt.slots] at X1215 l1215 y1215 z1215 st1215 hQ1215
  replace l1215 := l1215.symm
  replace y1215 : 0 = k1215 := y1215.symm
  replace z1215 : 0 = n1215 := z1215.symm
  subst l1215 y1215 z1215
  obtain ⟨rfl, M1215, e1215⟩ := hQ1215
  have N1215 := Fr.app N0 M1215
  have pre1216 : ∀ t, Steps p.tables e below (T1215.setTop (mkF m 6 #[iv (2 : Int32), iv (3 : Int32)] [(.int (2 : Int32))])) t → Steps p.tables e below (s₁.setTop (entryFrame m #[(.int (2 : Int32)), (.int (3 : Int32))] 2)) t := fun t kt => pre1214 _ (st1215 _ kt)
  obtain ⟨fs, hr, hrun, hended, hW, hsame⟩ := X1215.leave (v := some (.int (2 : Int32))) (fun h => by rw [Bd.returns] at h; cases h)
  refine ⟨_, _, pre1216 _ (retI X1215 hx Bd.returns (hb hby d5_6) hr), hrun, hended, _, _, rfl, ?_, ⟨_, rfl⟩, hW, hsame.mono (by decide) (by decide)⟩
  show Q_checkIndex5_5 Z  h0 n0 _ T1215.heap _
  rw [e1215]
  exact ⟨rfl, N1215, rfl⟩
def Q_get8_5 (Z : State) (b840 : Addr) (k51_846 : ClassId) (b51_846 : Addr) (b221_849 : Addr) (p5 : Int32) (p1 : Int32) (p2 : Int32) (k221_849 : ClassId) (h0 : Heap) (n0 : Nat) (v : Option Value) (h : Heap) (L : List Loc) : Prop := v = some (.int p2) ∧ Fr n0 L ∧ h = h0
set_option maxRecDepth 65536 in
set_option maxHeartbeats 40000000 in
theorem rm_get8_5 (l : Launch) (Z : State) (a0 : Array Value) (hw : ∀ d ∈ tables_1, d.before a0 Z = true) (ws : List Jvm.Cond) (b840 : Addr) (k51_846 : ClassId) (b51_846 : Addr) (b221_849 : Addr) (p5 : Int32) (p1 : Int32) (p2 : Int32) (k221_849 : ClassId) (h0 : Heap) (n0 : Nat) (O0 : Old Z n0 h0) (Fi0 : Arv Z h0 b51_846 k51_846 (.array .int) (1 : Int32) [(.ref b221_849)] .null) (Fi1 : Fld Z h0 b840 "org/reachwatch/IntBlocks" "blocks" "[[I" (.ref b51_846)) (Fi2 : Fld Z h0 b840 "org/reachwatch/IntBlocks" "size" "I" (.int (3 : Int32))) (Fi3 : Arv Z h0 b221_849 k221_849 .int (16 : Int32) [(.int p5), (.int p1), (.int p2), (.int (0 : Int32)), (.int (0 : Int32)), (.int (0 : Int32)), (.int (0 : Int32)), (.int (0 : Int32)), (.int (0 : Int32)), (.int (0 : Int32)), (.int (0 : Int32)), (.int (0 : Int32)), (.int (0 : Int32)), (.int (0 : Int32)), (.int (0 : Int32)), (.int (0 : Int32))] (.int (0 : Int32))) :
    MetFree l (⟨"org/reachwatch/IntBlocks", "get", "(I)I"⟩ : MethodName) (head1 (Jvm.Cond.code (⟨"org/reachwatch/IntBlocks", "get", "(I)I"⟩ : MethodName) prog_56_method_3_code 2 (some .int) :: ws) ({ frames := 2, cells := 0, slots := 0, locals := 27 } : Room)) (fun a U => a = #[(.ref b840), (.int (2 : Int32))] ∧ Z.Warmed39 U.vm ∧ U.heap = h0) (fun _ _ _ _ _ => True) (fun _ U o U' => ∃ v L, o = .returned v ∧ Q_get8_5 Z b840 k51_846 b51_846 b221_849 p5 p1 p2 k221_849 h0 n0 v U'.heap L ∧ FrameEnd U o U' L ({ frames := 2, cells := 0, slots := 0, locals := 27 } : Room).cells ({ frames := 2, cells := 0, slots := 0, locals := 27 } : Room).slots) := by
  refine MetFree.of_bodySF (plainFor_of_name pn_2) hisR ?_
  intro p e s m args below meth c s₁ Bd hml0 hP hK
  have W := fun {d : Jvm.Cond} (i : Nat) (q : tables_1[i]? = some d) => hw d (List.mem_of_getElem? q)
  obtain ⟨rfl, hZ, hh⟩ := hP
  have hx := Bd.exec
  have hby := Bd.bytes
  have hml : c.maxLocals = 2 := hml0
  have hown : s.vm.findClass "org/reachwatch/IntBlocks" = some m.cls := findClass_of_methodNamed Bd.named
  have hnm := (name_of_methodNamed Bd.named Bd.method).1
  have X0 : Stand p l e ({ frames := 2, cells := 0, slots := 0, locals := 27 } : Room) s m #[(.ref b840), (.int (2 : Int32))] below meth c s₁ [] 0 0 := Stand.of_body Bd
  have e0 : s₁.heap = h0 := by rw [← hh, Bd.state]; rfl
  have N0 := Fr.nil n0
  have pre0 : ∀ t, Steps p.tables e below (s₁.setTop (mkF m 0 #[rv b840, iv (2 : Int32)] [])) t → Steps p.tables e below (s₁.setTop (entryFrame m #[(.ref b840), (.int (2 : Int32))] 2)) t := fun t k => castTop (ef_17 m b840 (2 : Int32)) k
  have K0 : Keep h0 h0 [] := Keep.refl h0 []
  have pre1239 : ∀ t, Steps p.tables e below (s₁.setTop (mkF m 2 #[rv b840, iv (2 : Int32)] [(.ref b840), (.int (2 : Int32))])) t → Steps p.tables e below (s₁.setTop (entryFrame m #[(.ref b840), (.int (2 : Int32))] 2)) t := fun t kt => by
    refine pre0 _ ?_
    show Steps p.tables e below (s₁.setTop (mkF m 0 #[rv b840, iv (2 : Int32)] [])) _
    refine XS.iloadN X0.here hx rfl (hb hby d8_0) rfl ?_
    show Steps p.tables e below (s₁.setTop (mkF m 1 #[rv b840, iv (2 : Int32)] [(.int (2 : Int32))])) _
    refine XS.aloadN X0.here hx rfl (hb hby d8_1) rfl rfl ?_
    exact kt
  obtain ⟨T1240, X1240, e1240, st1240⟩ := getF X0 hx hZ hown (host := "") (Or.inl (W 19 rfl)) Via.refl e0 Fi2 (g := (mkF m 2 #[rv b840, iv (2 : Int32)] [(.ref b840), (.int (2 : Int32))])) rfl rfl (hb hby d8_2)
  have pre1241 : ∀ t, Steps p.tables e below (T1240.setTop (mkF m 5 #[rv b840, iv (2 : Int32)] [(.int (3 : Int32)), (.int (2 : Int32))])) t → Steps p.tables e below (s₁.setTop (entryFrame m #[(.ref b840), (.int (2 : Int32))] 2)) t := fun t kt => pre1239 _ (st1240 _ kt)
  obtain ⟨_, _, ⟨T1242, L1242, k1242, n1242⟩, -, X1242, ⟨Lc1242, hQ1242, l1242, y1242, z1242⟩, st1242⟩ := Jvm.LawKit.callS X1240 hx (y := (⟨"java/util/Objects", "checkIndex", "(II)I"⟩ : MethodName)) hown (mvT hZ (W 29 rfl)) (mvT hZ (W 30 rfl)) (mvT hZ (W 31 rfl)) (mvT hZ (W 32 rfl)) (by decide) (backOf (W := 0) (rm_checkIndex5_5 l Z a0 hw [] h0 n0 O0) hZ (W 32 rfl) (W 31 rfl) (by decide) (by decide)) (g := (mkF m 5 #[rv b840, iv (2 : Int32)] [(.int (3 : Int32)), (.int (2 : Int32))])) rfl (by rw [hml]; rfl) (argsL := [(.int (2 : Int32)), (.int (3 : Int32))]) (rest := []) (lenOf pd_12 rfl) rfl (by show 2 * 0 + _ ≤ _; exact Nat.le_of_eq rfl) (hb hby d8_5) (fun _ _ => ⟨rfl, e1240, (by decide : 0 + 0 ≤ _), (by decide : 0 + 0 ≤ _)⟩)
  dsimp only [Pt.U, Pt.locs, Pt.cells, Pt.slots] at X1242 l1242 y1242 z1242 st1242 hQ1242
  replace l1242 := l1242.symm
  replace y1242 : 0 = k1242 := y1242.symm
  replace z1242 : 0 = n1242 := z1242.symm
  subst l1242 y1242 z1242
  obtain ⟨rfl, M1242, e1242⟩ := hQ1242
  have N1242 := Fr.app N0 M1242
  have pre1243 : ∀ t, Steps p.tables e below (T1242.setTop (mkF m 8 #[rv b840, iv (2 : Int32)] [(.int (2 : Int32))])) t → Steps p.tables e below (s₁.setTop (entryFrame m #[(.ref b840), (.int (2 : Int32))] 2)) t := fun t kt => pre1241 _ (st1242 _ kt)
  have pre1244 : ∀ t, Steps p.tables e below (T1242.setTop (mkF m 10 #[rv b840, iv (2 : Int32)] [(.ref b840)])) t → Steps p.tables e below (s₁.setTop (entryFrame m #[(.ref b840), (.int (2 : Int32))] 2)) t := fun t kt => by
    refine pre1243 _ ?_
    show Steps p.tables e below (T1242.setTop (mkF m 8 #[rv b840, iv (2 : Int32)] [(.int (2 : Int32))])) _
    refine XS.pop X1242.here hx rfl (hb hby d8_8) rfl rfl ?_
    show Steps p.tables e below (T1242.setTop (mkF m 9 #[rv b840, iv (2 : Int32)] [])) _
    refine XS.aloadN X1242.here hx rfl (hb hby d8_9) rfl rfl ?_
    exact kt
  obtain ⟨T1245, X1245, e1245, st1245⟩ := getF X1242 hx hZ hown (host := "") (Or.inl (W 12 rfl)) Via.refl e1242 Fi1 (g := (mkF m 10 #[rv b840, iv (2 : Int32)] [(.ref b840)])) rfl rfl (hb hby d8_10)
  have pre1246 : ∀ t, Steps p.tables e below (T1245.setTop (mkF m 13 #[rv b840, iv (2 : Int32)] [(.ref b51_846)])) t → Steps p.tables e below (s₁.setTop (entryFrame m #[(.ref b840), (.int (2 : Int32))] 2)) t := fun t kt => pre1244 _ (st1245 _ kt)
  have pre1248 : ∀ t, Steps p.tables e below (T1245.setTop (mkF m 17 #[rv b840, iv (2 : Int32)] [(.int (0 : Int32)), (.ref b51_846)])) t → Steps p.tables e below (s₁.setTop (entryFrame m #[(.ref b840), (.int (2 : Int32))] 2)) t := fun t kt => by
    refine pre1246 _ ?_
    show Steps p.tables e below (T1245.setTop (mkF m 13 #[rv b840, iv (2 : Int32)] [(.ref b51_846)])) _
    refine XS.iloadN X1245.here hx rfl (hb hby d8_13) rfl ?_
    show Steps p.tables e below (T1245.setTop (mkF m 14 #[rv b840, iv (2 : Int32)] [(.int (2 : Int32)), (.ref b51_846)])) _
    refine X1245.ldcInt hx hown (mvT hZ (W 21 rfl)) (g := (mkF m 14 #[rv b840, iv (2 : Int32)] [(.int (2 : Int32)), (.ref b51_846)])) rfl (hb hby d8_14) _ ?_
    show Steps p.tables e below (T1245.setTop (mkF m 16 #[rv b840, iv (2 : Int32)] [(.int (65536 : Int32)), (.int (2 : Int32)), (.ref b51_846)])) _
    refine XS.idiv X1245.here hx rfl (hb hby d8_16) rfl (by decide) ?_
    show  Steps p.tables e below (T1245.setTop (mkF m 17 #[rv b840, iv (2 : Int32)] [(.int ((2 : Int32) / (65536 : Int32))), (.ref b51_846)])) _
    rw [(by decide : (((2 : Int32) / (65536 : Int32)) : Int32) = (0 : Int32))]
    exact kt
  obtain ⟨c1247, Ar1247, q1247, S1247, M1247, H1247, G1247⟩ := id Fi0
  have i1247 : ¬ ((0 : Int32) < 0 ∨ c1247.slots.size ≤ ((0 : Int32)).toNatClampNeg) := inb_of S1247 ⟨by decide, by decide⟩
  have t1247 : c1247.slots[((0 : Int32)).toNatClampNeg]? = some (.ref b221_849) := Has.at H1247 i1247 rfl
  have pre1250 : ∀ t, Steps p.tables e below (T1245.setTop (mkF m 22 #[rv b840, iv (2 : Int32)] [(.int (2 : Int32)), (.ref b221_849)])) t → Steps p.tables e below (s₁.setTop (entryFrame m #[(.ref b840), (.int (2 : Int32))] 2)) t := fun t kt => by
    refine pre1248 _ ?_
    show Steps p.tables e below (T1245.setTop (mkF m 17 #[rv b840, iv (2 : Int32)] [(.int (0 : Int32)), (.ref b51_846)])) _
    refine X1245.aaload hx (j := (0 : Int32)) (v := (.ref b221_849)) (by rw [e1245]; exact Ar1247.1) (State.isArrayOf_alike hZ.alike Ar1247.2.1) rfl Ar1247.2.2 i1247 t1247 (g := (mkF m 17 #[rv b840, iv (2 : Int32)] [(.int (0 : Int32)), (.ref b51_846)])) rfl rfl (hb hby d8_17) _ ?_
    show Steps p.tables e below (T1245.setTop (mkF m 18 #[rv b840, iv (2 : Int32)] [(.ref b221_849)])) _
    refine XS.iloadN X1245.here hx rfl (hb hby d8_18) rfl ?_
    show Steps p.tables e below (T1245.setTop (mkF m 19 #[rv b840, iv (2 : Int32)] [(.int (2 : Int32)), (.ref b221_849)])) _
    refine X1245.ldcInt hx hown (mvT hZ (W 21 rfl)) (g := (mkF m 19 #[rv b840, iv (2 : Int32)] [(.int (2 : Int32)), (.ref b221_849)])) rfl (hb hby d8_19) _ ?_
    show Steps p.tables e below (T1245.setTop (mkF m 21 #[rv b840, iv (2 : Int32)] [(.int (65536 : Int32)), (.int (2 : Int32)), (.ref b221_849)])) _
    refine XS.irem X1245.here hx rfl (hb hby d8_21) rfl (by decide) ?_
    show  Steps p.tables e below (T1245.setTop (mkF m 22 #[rv b840, iv (2 : Int32)] [(.int ((2 : Int32) - ((2 : Int32) / (65536 : Int32)) * (65536 : Int32))), (.ref b221_849)])) _
    rw [(by decide : (((2 : Int32) - ((2 : Int32) / (65536 : Int32)) * (65536 : Int32)) : Int32) = (2 : Int32))]
    exact kt
  obtain ⟨c1249, Ar1249, q1249, S1249, M1249, H1249, G1249⟩ := id Fi3
  have i1249 : ¬ ((2 : Int32) < 0 ∨ c1249.slots.size ≤ ((2 : Int32)).toNatClampNeg) := inb_of S1249 ⟨by decide, by decide⟩
  have t1249 : c1249.slots[((2 : Int32)).toNatClampNeg]? = some (.int p2) := Has.at H1249 i1249 rfl
  have pre1251 : ∀ t, Steps p.tables e below (T1245.setTop (mkF m 23 #[rv b840, iv (2 : Int32)] [(.int p2)])) t → Steps p.tables e below (s₁.setTop (entryFrame m #[(.ref b840), (.int (2 : Int32))] 2)) t := fun t kt => by
    refine pre1250 _ ?_
    show Steps p.tables e below (T1245.setTop (mkF m 22 #[rv b840, iv (2 : Int32)] [(.int (2 : Int32)), (.ref b221_849)])) _
    refine X1245.iaload hx (j := (2 : Int32)) (v := (.int p2)) (by rw [e1245]; exact Ar1249.1) (State.isArrayOf_alike hZ.alike Ar1249.2.1) Ar1249.2.2 i1249 t1249 (g := (mkF m 22 #[rv b840, iv (2 : Int32)] [(.int (2 : Int32)), (.ref b221_849)])) rfl rfl (hb hby d8_22) _ ?_
    exact kt
  obtain ⟨fs, hr, hrun, hended, hW, hsame⟩ := X1245.leave (v := some (.int p2)) (fun h => by rw [Bd.returns] at h; cases h)
  refine ⟨_, _, pre1251 _ (retI X1245 hx Bd.returns (hb hby d8_23) hr), hrun, hended, _, _, rfl, ?_, ⟨_, rfl⟩, hW, hsame.mono (by decide) (by decide)⟩
  show Q_get8_5 Z b840 k51_846 b51_846 b221_849 p5 p1 p2 k221_849 h0 n0 _ T1245.heap _
  rw [e1245]
  exact ⟨rfl, N1242, rfl⟩
def Q_set4_4 (Z : State) (b840 : Addr) (p5 : Int32) (k51_846 : ClassId) (b51_846 : Addr) (b221_849 : Addr) (p0 : Int32) (p1 : Int32) (p2 : Int32) (k221_849 : ClassId) (h0 : Heap) (n0 : Nat) (v : Option Value) (h : Heap) (L : List Loc) : Prop := v = none ∧ Fr n0 L ∧ Keep h0 h [b221_849] ∧ Old Z n0 h ∧ Exa Z h b221_849 "[I" ∧ Arv Z h b221_849 k221_849 .int (16 : Int32) [(.int p0), (.int p5), (.int p2), (.int (0 : Int32)), (.int (0 : Int32)), (.int (0 : Int32)), (.int (0 : Int32)), (.int (0 : Int32)), (.int (0 : Int32)), (.int (0 : Int32)), (.int (0 : Int32)), (.int (0 : Int32)), (.int (0 : Int32)), (.int (0 : Int32)), (.int (0 : Int32)), (.int (0 : Int32))] (.int (0 : Int32))
set_option maxRecDepth 65536 in
set_option maxHeartbeats 40000000 in
theorem rm_set4_4 (l : Launch) (Z : State) (a0 : Array Value) (hw : ∀ d ∈ tables_1, d.before a0 Z = true) (ws : List Jvm.Cond) (b840 : Addr) (p5 : Int32) (k51_846 : ClassId) (b51_846 : Addr) (b221_849 : Addr) (p0 : Int32) (p1 : Int32) (p2 : Int32) (k221_849 : ClassId) (h0 : Heap) (n0 : Nat) (O0 : Old Z n0 h0) (g_b221_849 : n0 ≤ b221_849) (Fi0 : Arv Z h0 b51_846 k51_846 (.array .int) (1 : Int32) [(.ref b221_849)] .null) (Fi1 : Fld Z h0 b840 "org/reachwatch/IntBlocks" "blocks" "[[I" (.ref b51_846)) (Fi2 : Exa Z h0 b221_849 "[I") (Fi3 : Arv Z h0 b221_849 k221_849 .int (16 : Int32) [(.int p0), (.int p1), (.int p2), (.int (0 : Int32)), (.int (0 : Int32)), (.int (0 : Int32)), (.int (0 : Int32)), (.int (0 : Int32)), (.int (0 : Int32)), (.int (0 : Int32)), (.int (0 : Int32)), (.int (0 : Int32)), (.int (0 : Int32)), (.int (0 : Int32)), (.int (0 : Int32)), (.int (0 : Int32))] (.int (0 : Int32))) (Fi4 : Fld Z h0 b840 "org/reachwatch/IntBlocks" "size" "I" (.int (3 : Int32))) (q0 : ¬ (b221_849 = b840)) (q1 : ¬ (b221_849 = b51_846)) :
    MetFree l (⟨"org/reachwatch/IntBlocks", "set", "(II)V"⟩ : MethodName) (head1 (Jvm.Cond.code (⟨"org/reachwatch/IntBlocks", "set", "(II)V"⟩ : MethodName) prog_56_method_4_code 3 none :: ws) ({ frames := 2, cells := 0, slots := 0, locals := 27 } : Room)) (fun a U => a = #[(.ref b840), (.int (1 : Int32)), (.int p5)] ∧ Z.Warmed39 U.vm ∧ U.heap = h0) (fun _ _ _ _ _ => True) (fun _ U o U' => ∃ v L, o = .returned v ∧ Q_set4_4 Z b840 p5 k51_846 b51_846 b221_849 p0 p1 p2 k221_849 h0 n0 v U'.heap L ∧ FrameEnd U o U' L ({ frames := 2, cells := 0, slots := 0, locals := 27 } : Room).cells ({ frames := 2, cells := 0, slots := 0, locals := 27 } : Room).slots) := by
  refine MetFree.of_bodySF (plainFor_of_name pn_2) hisR ?_
  intro p e s m args below meth c s₁ Bd hml0 hP hK
  have W := fun {d : Jvm.Cond} (i : Nat) (q : tables_1[i]? = some d) => hw d (List.mem_of_getElem? q)
  obtain ⟨rfl, hZ, hh⟩ := hP
  have hx := Bd.exec
  have hby := Bd.bytes
  have hml : c.maxLocals = 3 := hml0
  have hown : s.vm.findClass "org/reachwatch/IntBlocks" = some m.cls := findClass_of_methodNamed Bd.named
  have hnm := (name_of_methodNamed Bd.named Bd.method).1
  have X0 : Stand p l e ({ frames := 2, cells := 0, slots := 0, locals := 27 } : Room) s m #[(.ref b840), (.int (1 : Int32)), (.int p5)] below meth c s₁ [] 0 0 := Stand.of_body Bd
  have e0 : s₁.heap = h0 := by rw [← hh, Bd.state]; rfl
  have N0 := Fr.nil n0
  have pre0 : ∀ t, Steps p.tables e below (s₁.setTop (mkF m 0 #[rv b840, iv (1 : Int32), iv p5] [])) t → Steps p.tables e below (s₁.setTop (entryFrame m #[(.ref b840), (.int (1 : Int32)), (.int p5)] 3)) t := fun t k => castTop (ef_13 m b840 (1 : Int32) p5) k
  have K0 : Keep h0 h0 [b221_849] := Keep.refl h0 [b221_849]
  have pre1296 : ∀ t, Steps p.tables e below (s₁.setTop (mkF m 2 #[rv b840, iv (1 : Int32), iv p5] [(.ref b840), (.int (1 : Int32))])) t → Steps p.tables e below (s₁.setTop (entryFrame m #[(.ref b840), (.int (1 : Int32)), (.int p5)] 3)) t := fun t kt => by
    refine pre0 _ ?_
    show Steps p.tables e below (s₁.setTop (mkF m 0 #[rv b840, iv (1 : Int32), iv p5] [])) _
    refine XS.iloadN X0.here hx rfl (hb hby d4_0) rfl ?_
    show Steps p.tables e below (s₁.setTop (mkF m 1 #[rv b840, iv (1 : Int32), iv p5] [(.int (1 : Int32))])) _
    refine XS.aloadN X0.here hx rfl (hb hby d4_1) rfl rfl ?_
    exact kt
  obtain ⟨T1297, X1297, e1297, st1297⟩ := getF X0 hx hZ hown (host := "") (Or.inl (W 19 rfl)) Via.refl e0 Fi4 (g := (mkF m 2 #[rv b840, iv (1 : Int32), iv p5] [(.ref b840), (.int (1 : Int32))])) rfl rfl (hb hby d4_2)
  have pre1298 : ∀ t, Steps p.tables e below (T1297.setTop (mkF m 5 #[rv b840, iv (1 : Int32), iv p5] [(.int (3 : Int32)), (.int (1 : Int32))])) t → Steps p.tables e below (s₁.setTop (entryFrame m #[(.ref b840), (.int (1 : Int32)), (.int p5)] 3)) t := fun t kt => pre1296 _ (st1297 _ kt)
  obtain ⟨_, _, ⟨T1299, L1299, k1299, n1299⟩, -, X1299, ⟨Lc1299, hQ1299, l1299, y1299, z1299⟩, st1299⟩ := Jvm.LawKit.callS X1297 hx (y := (⟨"java/util/Objects", "checkIndex", "(II)I"⟩ : MethodName)) hown (mvT hZ (W 29 rfl)) (mvT hZ (W 30 rfl)) (mvT hZ (W 31 rfl)) (mvT hZ (W 32 rfl)) (by decide) (backOf (W := 0) (rm_checkIndex5_4 l Z a0 hw [] h0 n0 O0) hZ (W 32 rfl) (W 31 rfl) (by decide) (by decide)) (g := (mkF m 5 #[rv b840, iv (1 : Int32), iv p5] [(.int (3 : Int32)), (.int (1 : Int32))])) rfl (by rw [hml]; rfl) (argsL := [(.int (1 : Int32)), (.int (3 : Int32))]) (rest := []) (lenOf pd_12 rfl) rfl (by show 2 * 0 + _ ≤ _; exact Nat.le_of_eq rfl) (hb hby d4_5) (fun _ _ => ⟨rfl, e1297, (by decide : 0 + 0 ≤ _), (by decide : 0 + 0 ≤ _)⟩)
  dsimp only [Pt.U, Pt.locs, Pt.cells, Pt.slots] at X1299 l1299 y1299 z1299 st1299 hQ1299
  replace l1299 := l1299.symm
  replace y1299 : 0 = k1299 := y1299.symm
  replace z1299 : 0 = n1299 := z1299.symm
  subst l1299 y1299 z1299
  obtain ⟨rfl, M1299, e1299⟩ := hQ1299
  have N1299 := Fr.app N0 M1299
  have pre1300 : ∀ t, Steps p.tables e below (T1299.setTop (mkF m 8 #[rv b840, iv (1 : Int32), iv p5] [(.int (1 : Int32))])) t → Steps p.tables e below (s₁.setTop (entryFrame m #[(.ref b840), (.int (1 : Int32)), (.int p5)] 3)) t := fun t kt => pre1298 _ (st1299 _ kt)
  have pre1301 : ∀ t, Steps p.tables e below (T1299.setTop (mkF m 10 #[rv b840, iv (1 : Int32), iv p5] [(.ref b840)])) t → Steps p.tables e below (s₁.setTop (entryFrame m #[(.ref b840), (.int (1 : Int32)), (.int p5)] 3)) t := fun t kt => by
    refine pre1300 _ ?_
    show Steps p.tables e below (T1299.setTop (mkF m 8 #[rv b840, iv (1 : Int32), iv p5] [(.int (1 : Int32))])) _
    refine XS.pop X1299.here hx rfl (hb hby d4_8) rfl rfl ?_
    show Steps p.tables e below (T1299.setTop (mkF m 9 #[rv b840, iv (1 : Int32), iv p5] [])) _
    refine XS.aloadN X1299.here hx rfl (hb hby d4_9) rfl rfl ?_
    exact kt
  obtain ⟨T1302, X1302, e1302, st1302⟩ := getF X1299 hx hZ hown (host := "") (Or.inl (W 12 rfl)) Via.refl e1299 Fi1 (g := (mkF m 10 #[rv b840, iv (1 : Int32), iv p5] [(.ref b840)])) rfl rfl (hb hby d4_10)
  have pre1303 : ∀ t, Steps p.tables e below (T1302.setTop (mkF m 13 #[rv b840, iv (1 : Int32), iv p5] [(.ref b51_846)])) t → Steps p.tables e below (s₁.setTop (entryFrame m #[(.ref b840), (.int (1 : Int32)), (.int p5)] 3)) t := fun t kt => pre1301 _ (st1302 _ kt)
  have pre1305 : ∀ t, Steps p.tables e below (T1302.setTop (mkF m 17 #[rv b840, iv (1 : Int32), iv p5] [(.int (0 : Int32)), (.ref b51_846)])) t → Steps p.tables e below (s₁.setTop (entryFrame m #[(.ref b840), (.int (1 : Int32)), (.int p5)] 3)) t := fun t kt => by
    refine pre1303 _ ?_
    show Steps p.tables e below (T1302.setTop (mkF m 13 #[rv b840, iv (1 : Int32), iv p5] [(.ref b51_846)])) _
    refine XS.iloadN X1302.here hx rfl (hb hby d4_13) rfl ?_
    show Steps p.tables e below (T1302.setTop (mkF m 14 #[rv b840, iv (1 : Int32), iv p5] [(.int (1 : Int32)), (.ref b51_846)])) _
    refine X1302.ldcInt hx hown (mvT hZ (W 21 rfl)) (g := (mkF m 14 #[rv b840, iv (1 : Int32), iv p5] [(.int (1 : Int32)), (.ref b51_846)])) rfl (hb hby d4_14) _ ?_
    show Steps p.tables e below (T1302.setTop (mkF m 16 #[rv b840, iv (1 : Int32), iv p5] [(.int (65536 : Int32)), (.int (1 : Int32)), (.ref b51_846)])) _
    refine XS.idiv X1302.here hx rfl (hb hby d4_16) rfl (by decide) ?_
    show  Steps p.tables e below (T1302.setTop (mkF m 17 #[rv b840, iv (1 : Int32), iv p5] [(.int ((1 : Int32) / (65536 : Int32))), (.ref b51_846)])) _
    rw [(by decide : (((1 : Int32) / (65536 : Int32)) : Int32) = (0 : Int32))]
    exact kt
  obtain ⟨c1304, Ar1304, q1304, S1304, M1304, H1304, G1304⟩ := id Fi0
  have i1304 : ¬ ((0 : Int32) < 0 ∨ c1304.slots.size ≤ ((0 : Int32)).toNatClampNeg) := inb_of S1304 ⟨by decide, by decide⟩
  have t1304 : c1304.slots[((0 : Int32)).toNatClampNeg]? = some (.ref b221_849) := Has.at H1304 i1304 rfl
  have pre1306 : ∀ t, Steps p.tables e below (T1302.setTop (mkF m 23 #[rv b840, iv (1 : Int32), iv p5] [(.int p5), (.int (1 : Int32)), (.ref b221_849)])) t → Steps p.tables e below (s₁.setTop (entryFrame m #[(.ref b840), (.int (1 : Int32)), (.int p5)] 3)) t := fun t kt => by
    refine pre1305 _ ?_
    show Steps p.tables e below (T1302.setTop (mkF m 17 #[rv b840, iv (1 : Int32), iv p5] [(.int (0 : Int32)), (.ref b51_846)])) _
    refine X1302.aaload hx (j := (0 : Int32)) (v := (.ref b221_849)) (by rw [e1302]; exact Ar1304.1) (State.isArrayOf_alike hZ.alike Ar1304.2.1) rfl Ar1304.2.2 i1304 t1304 (g := (mkF m 17 #[rv b840, iv (1 : Int32), iv p5] [(.int (0 : Int32)), (.ref b51_846)])) rfl rfl (hb hby d4_17) _ ?_
    show Steps p.tables e below (T1302.setTop (mkF m 18 #[rv b840, iv (1 : Int32), iv p5] [(.ref b221_849)])) _
    refine XS.iloadN X1302.here hx rfl (hb hby d4_18) rfl ?_
    show Steps p.tables e below (T1302.setTop (mkF m 19 #[rv b840, iv (1 : Int32), iv p5] [(.int (1 : Int32)), (.ref b221_849)])) _
    refine X1302.ldcInt hx hown (mvT hZ (W 21 rfl)) (g := (mkF m 19 #[rv b840, iv (1 : Int32), iv p5] [(.int (1 : Int32)), (.ref b221_849)])) rfl (hb hby d4_19) _ ?_
    show Steps p.tables e below (T1302.setTop (mkF m 21 #[rv b840, iv (1 : Int32), iv p5] [(.int (65536 : Int32)), (.int (1 : Int32)), (.ref b221_849)])) _
    refine XS.irem X1302.here hx rfl (hb hby d4_21) rfl (by decide) ?_
    show  Steps p.tables e below (T1302.setTop (mkF m 22 #[rv b840, iv (1 : Int32), iv p5] [(.int ((1 : Int32) - ((1 : Int32) / (65536 : Int32)) * (65536 : Int32))), (.ref b221_849)])) _
    rw [(by decide : (((1 : Int32) - ((1 : Int32) / (65536 : Int32)) * (65536 : Int32)) : Int32) = (1 : Int32))]
    show Steps p.tables e below (T1302.setTop (mkF m 22 #[rv b840, iv (1 : Int32), iv p5] [(.int (1 : Int32)), (.ref b221_849)])) _
    refine XS.iloadN X1302.here hx rfl (hb hby d4_22) rfl ?_
    exact kt
  obtain ⟨c1307, Ar1307, q1307, S1307, M1307, H1307, G1307⟩ := id Fi3
  have i1307 : ¬ ((1 : Int32) < 0 ∨ c1307.slots.size ≤ ((1 : Int32)).toNatClampNeg) := inb_of S1307 ⟨by decide, by decide⟩
  obtain ⟨T1308, h1308, X1308, e1308, W1308, st1308⟩ := stI X1302 hx hZ e1302 Ar1307 (j := (1 : Int32)) i1307 (g := (mkF m 23 #[rv b840, iv (1 : Int32), iv p5] [(.int p5), (.int (1 : Int32)), (.ref b221_849)])) rfl rfl (hb hby d4_23)
  have pre1309 : ∀ t, Steps p.tables e below (T1308.setTop (mkF m 24 #[rv b840, iv (1 : Int32), iv p5] [])) t → Steps p.tables e below (s₁.setTop (entryFrame m #[(.ref b840), (.int (1 : Int32)), (.int p5)] 3)) t := fun t kt => pre1306 _ (st1308 _ kt)
  have N1308 := Fr.snoc X1308 N1299 g_b221_849
  have O1308 := O0.wr W1308 g_b221_849
  have K1308 : Keep h0 h1308 [b221_849] := K0.wr W1308 (Or.inl (List.mem_of_getElem? (i := 0) rfl))
  have F1310 := Fi0.other W1308 (fun q => q1 q.symm)
  have F1311 := Fi1.other W1308 (Or.inl (fun q => q0 q.symm))
  have F1312 := Fi2.wr W1308
  have F1313 := Fi4.other W1308 (Or.inl (fun q => q0 q.symm))
  have F1314 : Arv Z h1308 b221_849 k221_849 .int (16 : Int32) [(.int p0), (.int p5), (.int p2), (.int (0 : Int32)), (.int (0 : Int32)), (.int (0 : Int32)), (.int (0 : Int32)), (.int (0 : Int32)), (.int (0 : Int32)), (.int (0 : Int32)), (.int (0 : Int32)), (.int (0 : Int32)), (.int (0 : Int32)), (.int (0 : Int32)), (.int (0 : Int32)), (.int (0 : Int32))] (.int (0 : Int32)) := Arv.set Ar1307 q1307 S1307 M1307 H1307 G1307 rfl W1308 1 rfl (Nat.le_of_ble_eq_true rfl)
  obtain ⟨fs, hr, hrun, hended, hW, hsame⟩ := X1308.leave (v := none) (fun _ => rfl)
  refine ⟨_, _, pre1309 _ (X1308.returnOut hx Bd.returns (hb hby d4_24) hr), hrun, hended, _, _, rfl, ?_, ⟨_, rfl⟩, hW, hsame.mono (by decide) (by decide)⟩
  show Q_set4_4 Z b840 p5 k51_846 b51_846 b221_849 p0 p1 p2 k221_849 h0 n0 _ T1308.heap _
  rw [e1308]
  exact ⟨rfl, N1308, K1308, O1308, F1312, F1314⟩
def Q_set4_5 (Z : State) (b840 : Addr) (p5 : Int32) (k51_846 : ClassId) (b51_846 : Addr) (b221_849 : Addr) (p0 : Int32) (p1 : Int32) (p2 : Int32) (k221_849 : ClassId) (h0 : Heap) (n0 : Nat) (v : Option Value) (h : Heap) (L : List Loc) : Prop := v = none ∧ Fr n0 L ∧ Keep h0 h [b221_849] ∧ Old Z n0 h ∧ Exa Z h b221_849 "[I" ∧ Arv Z h b221_849 k221_849 .int (16 : Int32) [(.int p0), (.int p1), (.int p5), (.int (0 : Int32)), (.int (0 : Int32)), (.int (0 : Int32)), (.int (0 : Int32)), (.int (0 : Int32)), (.int (0 : Int32)), (.int (0 : Int32)), (.int (0 : Int32)), (.int (0 : Int32)), (.int (0 : Int32)), (.int (0 : Int32)), (.int (0 : Int32)), (.int (0 : Int32))] (.int (0 : Int32))
set_option maxRecDepth 65536 in
set_option maxHeartbeats 40000000 in
theorem rm_set4_5 (l : Launch) (Z : State) (a0 : Array Value) (hw : ∀ d ∈ tables_1, d.before a0 Z = true) (ws : List Jvm.Cond) (b840 : Addr) (p5 : Int32) (k51_846 : ClassId) (b51_846 : Addr) (b221_849 : Addr) (p0 : Int32) (p1 : Int32) (p2 : Int32) (k221_849 : ClassId) (h0 : Heap) (n0 : Nat) (O0 : Old Z n0 h0) (g_b221_849 : n0 ≤ b221_849) (Fi0 : Arv Z h0 b51_846 k51_846 (.array .int) (1 : Int32) [(.ref b221_849)] .null) (Fi1 : Fld Z h0 b840 "org/reachwatch/IntBlocks" "blocks" "[[I" (.ref b51_846)) (Fi2 : Exa Z h0 b221_849 "[I") (Fi3 : Arv Z h0 b221_849 k221_849 .int (16 : Int32) [(.int p0), (.int p1), (.int p2), (.int (0 : Int32)), (.int (0 : Int32)), (.int (0 : Int32)), (.int (0 : Int32)), (.int (0 : Int32)), (.int (0 : Int32)), (.int (0 : Int32)), (.int (0 : Int32)), (.int (0 : Int32)), (.int (0 : Int32)), (.int (0 : Int32)), (.int (0 : Int32)), (.int (0 : Int32))] (.int (0 : Int32))) (Fi4 : Fld Z h0 b840 "org/reachwatch/IntBlocks" "size" "I" (.int (3 : Int32))) (q0 : ¬ (b221_849 = b840)) (q1 : ¬ (b221_849 = b51_846)) :
    MetFree l (⟨"org/reachwatch/IntBlocks", "set", "(II)V"⟩ : MethodName) (head1 (Jvm.Cond.code (⟨"org/reachwatch/IntBlocks", "set", "(II)V"⟩ : MethodName) prog_56_method_4_code 3 none :: ws) ({ frames := 2, cells := 0, slots := 0, locals := 27 } : Room)) (fun a U => a = #[(.ref b840), (.int (2 : Int32)), (.int p5)] ∧ Z.Warmed39 U.vm ∧ U.heap = h0) (fun _ _ _ _ _ => True) (fun _ U o U' => ∃ v L, o = .returned v ∧ Q_set4_5 Z b840 p5 k51_846 b51_846 b221_849 p0 p1 p2 k221_849 h0 n0 v U'.heap L ∧ FrameEnd U o U' L ({ frames := 2, cells := 0, slots := 0, locals := 27 } : Room).cells ({ frames := 2, cells := 0, slots := 0, locals := 27 } : Room).slots) := by
  refine MetFree.of_bodySF (plainFor_of_name pn_2) hisR ?_
  intro p e s m args below meth c s₁ Bd hml0 hP hK
  have W := fun {d : Jvm.Cond} (i : Nat) (q : tables_1[i]? = some d) => hw d (List.mem_of_getElem? q)
  obtain ⟨rfl, hZ, hh⟩ := hP
  have hx := Bd.exec
  have hby := Bd.bytes
  have hml : c.maxLocals = 3 := hml0
  have hown : s.vm.findClass "org/reachwatch/IntBlocks" = some m.cls := findClass_of_methodNamed Bd.named
  have hnm := (name_of_methodNamed Bd.named Bd.method).1
  have X0 : Stand p l e ({ frames := 2, cells := 0, slots := 0, locals := 27 } : Room) s m #[(.ref b840), (.int (2 : Int32)), (.int p5)] below meth c s₁ [] 0 0 := Stand.of_body Bd
  have e0 : s₁.heap = h0 := by rw [← hh, Bd.state]; rfl
  have N0 := Fr.nil n0
  have pre0 : ∀ t, Steps p.tables e below (s₁.setTop (mkF m 0 #[rv b840, iv (2 : Int32), iv p5] [])) t → Steps p.tables e below (s₁.setTop (entryFrame m #[(.ref b840), (.int (2 : Int32)), (.int p5)] 3)) t := fun t k => castTop (ef_13 m b840 (2 : Int32) p5) k
  have K0 : Keep h0 h0 [b221_849] := Keep.refl h0 [b221_849]
  have pre1376 : ∀ t, Steps p.tables e below (s₁.setTop (mkF m 2 #[rv b840, iv (2 : Int32), iv p5] [(.ref b840), (.int (2 : Int32))])) t → Steps p.tables e below (s₁.setTop (entryFrame m #[(.ref b840), (.int (2 : Int32)), (.int p5)] 3)) t := fun t kt => by
    refine pre0 _ ?_
    show Steps p.tables e below (s₁.setTop (mkF m 0 #[rv b840, iv (2 : Int32), iv p5] [])) _
    refine XS.iloadN X0.here hx rfl (hb hby d4_0) rfl ?_
    show Steps p.tables e below (s₁.setTop (mkF m 1 #[rv b840, iv (2 : Int32), iv p5] [(.int (2 : Int32))])) _
    refine XS.aloadN X0.here hx rfl (hb hby d4_1) rfl rfl ?_
    exact kt
  obtain ⟨T1377, X1377, e1377, st1377⟩ := getF X0 hx hZ hown (host := "") (Or.inl (W 19 rfl)) Via.refl e0 Fi4 (g := (mkF m 2 #[rv b840, iv (2 : Int32), iv p5] [(.ref b840), (.int (2 : Int32))])) rfl rfl (hb hby d4_2)
  have pre1378 : ∀ t, Steps p.tables e below (T1377.setTop (mkF m 5 #[rv b840, iv (2 : Int32), iv p5] [(.int (3 : Int32)), (.int (2 : Int32))])) t → Steps p.tables e below (s₁.setTop (entryFrame m #[(.ref b840), (.int (2 : Int32)), (.int p5)] 3)) t := fun t kt => pre1376 _ (st1377 _ kt)
  obtain ⟨_, _, ⟨T1379, L1379, k1379, n1379⟩, -, X1379, ⟨Lc1379, hQ1379, l1379, y1379, z1379⟩, st1379⟩ := Jvm.LawKit.callS X1377 hx (y := (⟨"java/util/Objects", "checkIndex", "(II)I"⟩ : MethodName)) hown (mvT hZ (W 29 rfl)) (mvT hZ (W 30 rfl)) (mvT hZ (W 31 rfl)) (mvT hZ (W 32 rfl)) (by decide) (backOf (W := 0) (rm_checkIndex5_5 l Z a0 hw [] h0 n0 O0) hZ (W 32 rfl) (W 31 rfl) (by decide) (by decide)) (g := (mkF m 5 #[rv b840, iv (2 : Int32), iv p5] [(.int (3 : Int32)), (.int (2 : Int32))])) rfl (by rw [hml]; rfl) (argsL := [(.int (2 : Int32)), (.int (3 : Int32))]) (rest := []) (lenOf pd_12 rfl) rfl (by show 2 * 0 + _ ≤ _; exact Nat.le_of_eq rfl) (hb hby d4_5) (fun _ _ => ⟨rfl, e1377, (by decide : 0 + 0 ≤ _), (by decide : 0 + 0 ≤ _)⟩)
  dsimp only [Pt.U, Pt.locs, Pt.cells, Pt.slots] at X1379 l1379 y1379 z1379 st1379 hQ1379
  replace l1379 := l1379.symm
  replace y1379 : 0 = k1379 := y1379.symm
  replace z1379 : 0 = n1379 := z1379.symm
  subst l1379 y1379 z1379
  obtain ⟨rfl, M1379, e1379⟩ := hQ1379
  have N1379 := Fr.app N0 M1379
  have pre1380 : ∀ t, Steps p.tables e below (T1379.setTop (mkF m 8 #[rv b840, iv (2 : Int32), iv p5] [(.int (2 : Int32))])) t → Steps p.tables e below (s₁.setTop (entryFrame m #[(.ref b840), (.int (2 : Int32)), (.int p5)] 3)) t := fun t kt => pre1378 _ (st1379 _ kt)
  have pre1381 : ∀ t, Steps p.tables e below (T1379.setTop (mkF m 10 #[rv b840, iv (2 : Int32), iv p5] [(.ref b840)])) t → Steps p.tables e below (s₁.setTop (entryFrame m #[(.ref b840), (.int (2 : Int32)), (.int p5)] 3)) t := fun t kt => by
    refine pre1380 _ ?_
    show Steps p.tables e below (T1379.setTop (mkF m 8 #[rv b840, iv (2 : Int32), iv p5] [(.int (2 : Int32))])) _
    refine XS.pop X1379.here hx rfl (hb hby d4_8) rfl rfl ?_
    show Steps p.tables e below (T1379.setTop (mkF m 9 #[rv b840, iv (2 : Int32), iv p5] [])) _
    refine XS.aloadN X1379.here hx rfl (hb hby d4_9) rfl rfl ?_
    exact kt
  obtain ⟨T1382, X1382, e1382, st1382⟩ := getF X1379 hx hZ hown (host := "") (Or.inl (W 12 rfl)) Via.refl e1379 Fi1 (g := (mkF m 10 #[rv b840, iv (2 : Int32), iv p5] [(.ref b840)])) rfl rfl (hb hby d4_10)
  have pre1383 : ∀ t, Steps p.tables e below (T1382.setTop (mkF m 13 #[rv b840, iv (2 : Int32), iv p5] [(.ref b51_846)])) t → Steps p.tables e below (s₁.setTop (entryFrame m #[(.ref b840), (.int (2 : Int32)), (.int p5)] 3)) t := fun t kt => pre1381 _ (st1382 _ kt)
  have pre1385 : ∀ t, Steps p.tables e below (T1382.setTop (mkF m 17 #[rv b840, iv (2 : Int32), iv p5] [(.int (0 : Int32)), (.ref b51_846)])) t → Steps p.tables e below (s₁.setTop (entryFrame m #[(.ref b840), (.int (2 : Int32)), (.int p5)] 3)) t := fun t kt => by
    refine pre1383 _ ?_
    show Steps p.tables e below (T1382.setTop (mkF m 13 #[rv b840, iv (2 : Int32), iv p5] [(.ref b51_846)])) _
    refine XS.iloadN X1382.here hx rfl (hb hby d4_13) rfl ?_
    show Steps p.tables e below (T1382.setTop (mkF m 14 #[rv b840, iv (2 : Int32), iv p5] [(.int (2 : Int32)), (.ref b51_846)])) _
    refine X1382.ldcInt hx hown (mvT hZ (W 21 rfl)) (g := (mkF m 14 #[rv b840, iv (2 : Int32), iv p5] [(.int (2 : Int32)), (.ref b51_846)])) rfl (hb hby d4_14) _ ?_
    show Steps p.tables e below (T1382.setTop (mkF m 16 #[rv b840, iv (2 : Int32), iv p5] [(.int (65536 : Int32)), (.int (2 : Int32)), (.ref b51_846)])) _
    refine XS.idiv X1382.here hx rfl (hb hby d4_16) rfl (by decide) ?_
    show  Steps p.tables e below (T1382.setTop (mkF m 17 #[rv b840, iv (2 : Int32), iv p5] [(.int ((2 : Int32) / (65536 : Int32))), (.ref b51_846)])) _
    rw [(by decide : (((2 : Int32) / (65536 : Int32)) : Int32) = (0 : Int32))]
    exact kt
  obtain ⟨c1384, Ar1384, q1384, S1384, M1384, H1384, G1384⟩ := id Fi0
  have i1384 : ¬ ((0 : Int32) < 0 ∨ c1384.slots.size ≤ ((0 : Int32)).toNatClampNeg) := inb_of S1384 ⟨by decide, by decide⟩
  have t1384 : c1384.slots[((0 : Int32)).toNatClampNeg]? = some (.ref b221_849) := Has.at H1384 i1384 rfl
  have pre1386 : ∀ t, Steps p.tables e below (T1382.setTop (mkF m 23 #[rv b840, iv (2 : Int32), iv p5] [(.int p5), (.int (2 : Int32)), (.ref b221_849)])) t → Steps p.tables e below (s₁.setTop (entryFrame m #[(.ref b840), (.int (2 : Int32)), (.int p5)] 3)) t := fun t kt => by
    refine pre1385 _ ?_
    show Steps p.tables e below (T1382.setTop (mkF m 17 #[rv b840, iv (2 : Int32), iv p5] [(.int (0 : Int32)), (.ref b51_846)])) _
    refine X1382.aaload hx (j := (0 : Int32)) (v := (.ref b221_849)) (by rw [e1382]; exact Ar1384.1) (State.isArrayOf_alike hZ.alike Ar1384.2.1) rfl Ar1384.2.2 i1384 t1384 (g := (mkF m 17 #[rv b840, iv (2 : Int32), iv p5] [(.int (0 : Int32)), (.ref b51_846)])) rfl rfl (hb hby d4_17) _ ?_
    show Steps p.tables e below (T1382.setTop (mkF m 18 #[rv b840, iv (2 : Int32), iv p5] [(.ref b221_849)])) _
    refine XS.iloadN X1382.here hx rfl (hb hby d4_18) rfl ?_
    show Steps p.tables e below (T1382.setTop (mkF m 19 #[rv b840, iv (2 : Int32), iv p5] [(.int (2 : Int32)), (.ref b221_849)])) _
    refine X1382.ldcInt hx hown (mvT hZ (W 21 rfl)) (g := (mkF m 19 #[rv b840, iv (2 : Int32), iv p5] [(.int (2 : Int32)), (.ref b221_849)])) rfl (hb hby d4_19) _ ?_
    show Steps p.tables e below (T1382.setTop (mkF m 21 #[rv b840, iv (2 : Int32), iv p5] [(.int (65536 : Int32)), (.int (2 : Int32)), (.ref b221_849)])) _
    refine XS.irem X1382.here hx rfl (hb hby d4_21) rfl (by decide) ?_
    show  Steps p.tables e below (T1382.setTop (mkF m 22 #[rv b840, iv (2 : Int32), iv p5] [(.int ((2 : Int32) - ((2 : Int32) / (65536 : Int32)) * (65536 : Int32))), (.ref b221_849)])) _
    rw [(by decide : (((2 : Int32) - ((2 : Int32) / (65536 : Int32)) * (65536 : Int32)) : Int32) = (2 : Int32))]
    show Steps p.tables e below (T1382.setTop (mkF m 22 #[rv b840, iv (2 : Int32), iv p5] [(.int (2 : Int32)), (.ref b221_849)])) _
    refine XS.iloadN X1382.here hx rfl (hb hby d4_22) rfl ?_
    exact kt
  obtain ⟨c1387, Ar1387, q1387, S1387, M1387, H1387, G1387⟩ := id Fi3
  have i1387 : ¬ ((2 : Int32) < 0 ∨ c1387.slots.size ≤ ((2 : Int32)).toNatClampNeg) := inb_of S1387 ⟨by decide, by decide⟩
  obtain ⟨T1388, h1388, X1388, e1388, W1388, st1388⟩ := stI X1382 hx hZ e1382 Ar1387 (j := (2 : Int32)) i1387 (g := (mkF m 23 #[rv b840, iv (2 : Int32), iv p5] [(.int p5), (.int (2 : Int32)), (.ref b221_849)])) rfl rfl (hb hby d4_23)
  have pre1389 : ∀ t, Steps p.tables e below (T1388.setTop (mkF m 24 #[rv b840, iv (2 : Int32), iv p5] [])) t → Steps p.tables e below (s₁.setTop (entryFrame m #[(.ref b840), (.int (2 : Int32)), (.int p5)] 3)) t := fun t kt => pre1386 _ (st1388 _ kt)
  have N1388 := Fr.snoc X1388 N1379 g_b221_849
  have O1388 := O0.wr W1388 g_b221_849
  have K1388 : Keep h0 h1388 [b221_849] := K0.wr W1388 (Or.inl (List.mem_of_getElem? (i := 0) rfl))
  have F1390 := Fi0.other W1388 (fun q => q1 q.symm)
  have F1391 := Fi1.other W1388 (Or.inl (fun q => q0 q.symm))
  have F1392 := Fi2.wr W1388
  have F1393 := Fi4.other W1388 (Or.inl (fun q => q0 q.symm))
  have F1394 : Arv Z h1388 b221_849 k221_849 .int (16 : Int32) [(.int p0), (.int p1), (.int p5), (.int (0 : Int32)), (.int (0 : Int32)), (.int (0 : Int32)), (.int (0 : Int32)), (.int (0 : Int32)), (.int (0 : Int32)), (.int (0 : Int32)), (.int (0 : Int32)), (.int (0 : Int32)), (.int (0 : Int32)), (.int (0 : Int32)), (.int (0 : Int32)), (.int (0 : Int32))] (.int (0 : Int32)) := Arv.set Ar1387 q1387 S1387 M1387 H1387 G1387 rfl W1388 2 rfl (Nat.le_of_ble_eq_true rfl)
  obtain ⟨fs, hr, hrun, hended, hW, hsame⟩ := X1388.leave (v := none) (fun _ => rfl)
  refine ⟨_, _, pre1389 _ (X1388.returnOut hx Bd.returns (hb hby d4_24) hr), hrun, hended, _, _, rfl, ?_, ⟨_, rfl⟩, hW, hsame.mono (by decide) (by decide)⟩
  show Q_set4_5 Z b840 p5 k51_846 b51_846 b221_849 p0 p1 p2 k221_849 h0 n0 _ T1388.heap _
  rw [e1388]
  exact ⟨rfl, N1388, K1388, O1388, F1392, F1394⟩
def Q_law (Z : State) (p0 : Int32) (p1 : Int32) (p2 : Int32) (p3 : Int32) (p4 : Int32) (p5 : Int32) (h0 : Heap) (n0 : Nat) (v : Option Value) (h : Heap) (L : List Loc) : Prop := v = some (.int (1 : Int32)) ∧ Fr n0 L
set_option maxRecDepth 65536 in
set_option maxHeartbeats 40000000 in
theorem rm_law (l : Launch) (Z : State) (a0 : Array Value) (hw : ∀ d ∈ tables_1, d.before a0 Z = true) (ws : List Jvm.Cond) (p0 : Int32) (p1 : Int32) (p2 : Int32) (p3 : Int32) (p4 : Int32) (p5 : Int32) (h0 : Heap) (n0 : Nat) (O0 : Old Z n0 h0) :
    MetFree l x (head1 (Jvm.Cond.code x code maxLocals ret :: ws) room_1) (fun a U => a = #[(.int p0), (.int p1), (.int p2), (.int p3), (.int p4), (.int p5)] ∧ Z.Warmed39 U.vm ∧ U.heap = h0) (fun _ _ _ _ _ => True) (fun _ U o U' => ∃ v L, o = .returned v ∧ Q_law Z p0 p1 p2 p3 p4 p5 h0 n0 v U'.heap L ∧ FrameEnd U o U' L room_1.cells room_1.slots) := by
  refine MetFree.of_bodySF (plainFor_of_name pn_0) hisR ?_
  intro p e s m args below meth c s₁ Bd hml0 hP hK
  have W := fun {d : Jvm.Cond} (i : Nat) (q : tables_1[i]? = some d) => hw d (List.mem_of_getElem? q)
  obtain ⟨rfl, hZ, hh⟩ := hP
  have hx := Bd.exec
  have hby := Bd.bytes
  have hml : c.maxLocals = 13 := hml0
  have hown : s.vm.findClass "org/reachwatch/IntBlocksSetPinLaw" = some m.cls := findClass_of_methodNamed Bd.named
  have hnm := (name_of_methodNamed Bd.named Bd.method).1
  have X0 : Stand p l e room_1 s m #[(.int p0), (.int p1), (.int p2), (.int p3), (.int p4), (.int p5)] below meth c s₁ [] 0 0 := Stand.of_body Bd
  have e0 : s₁.heap = h0 := by rw [← hh, Bd.state]; rfl
  have N0 := Fr.nil n0
  have pre0 : ∀ t, Steps p.tables e below (s₁.setTop (mkF m 0 #[iv p0, iv p1, iv p2, iv p3, iv p4, iv p5, .unset, .unset, .unset, .unset, .unset, .unset, .unset] [])) t → Steps p.tables e below (s₁.setTop (entryFrame m #[(.int p0), (.int p1), (.int p2), (.int p3), (.int p4), (.int p5)] maxLocals)) t := fun t k => castTop (ef_1 m p0 p1 p2 p3 p4 p5) k
  have K0 : Keep h0 h0 [] := Keep.refl h0 []
  have pre1 : ∀ t, Steps p.tables e below (s₁.setTop (mkF m 7 #[iv p0, iv p1, iv p2, iv p3, iv p4, iv p5, .unset, .unset, .unset, .unset, .unset, .unset, .unset] [(.int ((p3 &&& (2147483647 : Int32)) - ((p3 &&& (2147483647 : Int32)) / (3 : Int32)) * (3 : Int32))), (.int (1 : Int32))])) t → Steps p.tables e below (s₁.setTop (entryFrame m #[(.int p0), (.int p1), (.int p2), (.int p3), (.int p4), (.int p5)] maxLocals)) t := fun t kt => by
    refine pre0 _ ?_
    show Steps p.tables e below (s₁.setTop (mkF m 0 #[iv p0, iv p1, iv p2, iv p3, iv p4, iv p5, .unset, .unset, .unset, .unset, .unset, .unset, .unset] [])) _
    refine XS.iconst X0.here hx rfl (hb hby at_0) ?_
    show Steps p.tables e below (s₁.setTop (mkF m 1 #[iv p0, iv p1, iv p2, iv p3, iv p4, iv p5, .unset, .unset, .unset, .unset, .unset, .unset, .unset] [(.int (1 : Int32))])) _
    refine XS.iloadN X0.here hx rfl (hb hby at_1) rfl ?_
    show Steps p.tables e below (s₁.setTop (mkF m 2 #[iv p0, iv p1, iv p2, iv p3, iv p4, iv p5, .unset, .unset, .unset, .unset, .unset, .unset, .unset] [(.int p3), (.int (1 : Int32))])) _
    refine X0.ldcInt hx hown (mvT hZ (W 0 rfl)) (g := (mkF m 2 #[iv p0, iv p1, iv p2, iv p3, iv p4, iv p5, .unset, .unset, .unset, .unset, .unset, .unset, .unset] [(.int p3), (.int (1 : Int32))])) rfl (hb hby at_2) _ ?_
    show Steps p.tables e below (s₁.setTop (mkF m 4 #[iv p0, iv p1, iv p2, iv p3, iv p4, iv p5, .unset, .unset, .unset, .unset, .unset, .unset, .unset] [(.int (2147483647 : Int32)), (.int p3), (.int (1 : Int32))])) _
    refine XS.iand X0.here hx rfl (hb hby at_4) rfl ?_
    show Steps p.tables e below (s₁.setTop (mkF m 5 #[iv p0, iv p1, iv p2, iv p3, iv p4, iv p5, .unset, .unset, .unset, .unset, .unset, .unset, .unset] [(.int (p3 &&& (2147483647 : Int32))), (.int (1 : Int32))])) _
    refine XS.iconst X0.here hx rfl (hb hby at_5) ?_
    show Steps p.tables e below (s₁.setTop (mkF m 6 #[iv p0, iv p1, iv p2, iv p3, iv p4, iv p5, .unset, .unset, .unset, .unset, .unset, .unset, .unset] [(.int (3 : Int32)), (.int (p3 &&& (2147483647 : Int32))), (.int (1 : Int32))])) _
    refine XS.irem X0.here hx rfl (hb hby at_6) rfl (by decide) ?_
    exact kt
  rcases own_rem3 p3 with hv2 | hv2 | hv2
  · rw [hv2] at pre1
    have pre3 : ∀ t, Steps p.tables e below (s₁.setTop (mkF m 10 #[iv p0, iv p1, iv p2, iv p3, iv p4, iv p5, iv (1 : Int32), .unset, .unset, .unset, .unset, .unset, .unset] [])) t → Steps p.tables e below (s₁.setTop (entryFrame m #[(.int p0), (.int p1), (.int p2), (.int p3), (.int p4), (.int p5)] maxLocals)) t := fun t kt => by
      refine pre1 _ ?_
      show Steps p.tables e below (s₁.setTop (mkF m 7 #[iv p0, iv p1, iv p2, iv p3, iv p4, iv p5, .unset, .unset, .unset, .unset, .unset, .unset, .unset] [(.int (0 : Int32)), (.int (1 : Int32))])) _
      refine XS.iadd X0.here hx rfl (hb hby at_7) rfl ?_
      show  Steps p.tables e below (s₁.setTop (mkF m 8 #[iv p0, iv p1, iv p2, iv p3, iv p4, iv p5, .unset, .unset, .unset, .unset, .unset, .unset, .unset] [(.int ((1 : Int32) + (0 : Int32)))])) _
      rw [(by decide : (((1 : Int32) + (0 : Int32)) : Int32) = (1 : Int32))]
      show Steps p.tables e below (s₁.setTop (mkF m 8 #[iv p0, iv p1, iv p2, iv p3, iv p4, iv p5, .unset, .unset, .unset, .unset, .unset, .unset, .unset] [(.int (1 : Int32))])) _
      refine XS.istore X0.here hx rfl (hb hby at_8) rfl (l' := #[iv p0, iv p1, iv p2, iv p3, iv p4, iv p5, iv (1 : Int32), .unset, .unset, .unset, .unset, .unset, .unset]) rfl ?_
      exact kt
    obtain ⟨T4, h4, X4, e4, E4, A4, D4, -, st4⟩ := newO X0 hx hZ hown (W 1 rfl) (W 2 rfl) (W 3 rfl) e0 (g := (mkF m 10 #[iv p0, iv p1, iv p2, iv p3, iv p4, iv p5, iv (1 : Int32), .unset, .unset, .unset, .unset, .unset, .unset] [])) rfl (hb hby at_10) (by decide) (by decide)
    obtain ⟨b4, g4⟩ : ∃ z, z = h0.size := ⟨_, rfl⟩
    rw [← g4] at A4 D4 st4
    have pre5 : ∀ t, Steps p.tables e below (T4.setTop (mkF m 13 #[iv p0, iv p1, iv p2, iv p3, iv p4, iv p5, iv (1 : Int32), .unset, .unset, .unset, .unset, .unset, .unset] [(.ref b4)])) t → Steps p.tables e below (s₁.setTop (entryFrame m #[(.int p0), (.int p1), (.int p2), (.int p3), (.int p4), (.int p5)] maxLocals)) t := fun t kt => pre3 _ (st4 _ kt)
    have O4 := O0.ext E4
    have K4 : Keep h0 h4 [] := K0.ext E4
    have g_b4 : n0 ≤ b4 := Nat.le_trans (Nat.le_trans (Nat.le_of_eq O0.1.symm) O0.2.1) (Nat.le_of_eq g4.symm)
    have sz_b4 : h0.size ≤ b4 := Nat.le_trans K0.1 (Nat.le_of_eq g4.symm)
    have F6 : Exa Z h4 b4 "org/reachwatch/IntBlocks" := A4
    have F7 : Fld Z h4 b4 "org/reachwatch/IntBlocks" "blocks" "[[I" .null := D4 (Or.inl (W 13 rfl)) (ty := (.array (.array .int))) (by decide)
    have F8 : Fld Z h4 b4 "org/reachwatch/IntBlocks" "size" "I" (.int (0 : Int32)) := D4 (Or.inl (W 20 rfl)) (ty := .int) (by decide)
    have pre9 : ∀ t, Steps p.tables e below (T4.setTop (mkF m 14 #[iv p0, iv p1, iv p2, iv p3, iv p4, iv p5, iv (1 : Int32), .unset, .unset, .unset, .unset, .unset, .unset] [(.ref b4), (.ref b4)])) t → Steps p.tables e below (s₁.setTop (entryFrame m #[(.int p0), (.int p1), (.int p2), (.int p3), (.int p4), (.int p5)] maxLocals)) t := fun t kt => by
      refine pre5 _ ?_
      show Steps p.tables e below (T4.setTop (mkF m 13 #[iv p0, iv p1, iv p2, iv p3, iv p4, iv p5, iv (1 : Int32), .unset, .unset, .unset, .unset, .unset, .unset] [(.ref b4)])) _
      refine XS.dup X4.here hx rfl (hb hby at_13) rfl rfl ?_
      exact kt
    obtain ⟨_, _, ⟨T10, L10, k10, n10⟩, -, X10, ⟨Lc10, hQ10, l10, y10, z10⟩, st10⟩ := X4.specialBack hx (y := (⟨"org/reachwatch/IntBlocks", "<init>", "()V"⟩ : MethodName)) rfl hown (mvT hZ (W 4 rfl)) (mvT hZ (W 5 rfl)) (mvT hZ (W 6 rfl)) (by decide) (backOf (W := 1) (rm_init1_0 l Z a0 hw [] b4 h4 n0 O4 g_b4 F6 F7 F8) hZ (W 6 rfl) (W 3 rfl) (by decide) (by decide)) (g := (mkF m 14 #[iv p0, iv p1, iv p2, iv p3, iv p4, iv p5, iv (1 : Int32), .unset, .unset, .unset, .unset, .unset, .unset] [(.ref b4), (.ref b4)])) rfl (by rw [hml]; rfl) (Steps.refl _) (a := b4) (argsL := []) (rest := [(.ref b4)]) (lenOf pd_4 rfl) rfl (by show 2 * 0 + _ ≤ _; exact Nat.le_of_eq rfl) (hb hby at_14) (fun _ _ => ⟨rfl, e4, (by decide : 1 + 1 ≤ _), (by decide : 2 + 1 ≤ _)⟩)
    dsimp only [Pt.U, Pt.locs, Pt.cells, Pt.slots] at X10 l10 y10 z10 st10 hQ10
    replace l10 := l10.symm
    replace y10 : 2 = k10 := y10.symm
    replace z10 : 3 = n10 := z10.symm
    subst l10 y10 z10
    obtain ⟨b51_10, k51_10, rfl, M10, Kc10, O10, J10_0, J10_1, J10_2, J10_3, J10_4, J10_5, P10_0⟩ := hQ10
    obtain ⟨h10, e10⟩ : ∃ z, T10.heap = z := ⟨_, rfl⟩
    rw [e10] at Kc10 O10 J10_0 J10_1 J10_2 J10_4 J10_5
    try rw [e10] at P10_0
    have N10 := Fr.app N0 M10
    have K10 : Keep h0 h10 [] := K4.trans Kc10 (own_all1 (Or.inr sz_b4))
    have pre65 : ∀ t, Steps p.tables e below (T10.setTop (mkF m 17 #[iv p0, iv p1, iv p2, iv p3, iv p4, iv p5, iv (1 : Int32), .unset, .unset, .unset, .unset, .unset, .unset] [(.ref b4)])) t → Steps p.tables e below (s₁.setTop (entryFrame m #[(.int p0), (.int p1), (.int p2), (.int p3), (.int p4), (.int p5)] maxLocals)) t := fun t kt => pre9 _ (st10.trans kt)
    have sz_b51_10 : h0.size ≤ b51_10 := Nat.le_trans K4.1 P10_0
    have ne_b4_b51_10 : b4 ≠ b51_10 := Nat.ne_of_lt (Nat.lt_of_lt_of_le F6.lt P10_0)
    have g_b51_10 : n0 ≤ b51_10 := Nat.le_trans (Nat.le_trans (Nat.le_of_eq O0.1.symm) O0.2.1) sz_b51_10
    have pre66 : ∀ t, Steps p.tables e below (T10.setTop (mkF m 22 #[iv p0, iv p1, iv p2, iv p3, iv p4, iv p5, iv (1 : Int32), rv b4, .unset, .unset, .unset, .unset, .unset] [(.int p0), (.ref b4)])) t → Steps p.tables e below (s₁.setTop (entryFrame m #[(.int p0), (.int p1), (.int p2), (.int p3), (.int p4), (.int p5)] maxLocals)) t := fun t kt => by
      refine pre65 _ ?_
      show Steps p.tables e below (T10.setTop (mkF m 17 #[iv p0, iv p1, iv p2, iv p3, iv p4, iv p5, iv (1 : Int32), .unset, .unset, .unset, .unset, .unset, .unset] [(.ref b4)])) _
      refine XS.astore X10.here hx rfl (hb hby at_17) rfl rfl (l' := #[iv p0, iv p1, iv p2, iv p3, iv p4, iv p5, iv (1 : Int32), rv b4, .unset, .unset, .unset, .unset, .unset]) rfl ?_
      show Steps p.tables e below (T10.setTop (mkF m 19 #[iv p0, iv p1, iv p2, iv p3, iv p4, iv p5, iv (1 : Int32), rv b4, .unset, .unset, .unset, .unset, .unset] [])) _
      refine XS.aload X10.here hx rfl (hb hby at_19) rfl rfl ?_
      show Steps p.tables e below (T10.setTop (mkF m 21 #[iv p0, iv p1, iv p2, iv p3, iv p4, iv p5, iv (1 : Int32), rv b4, .unset, .unset, .unset, .unset, .unset] [(.ref b4)])) _
      refine XS.iloadN X10.here hx rfl (hb hby at_21) rfl ?_
      exact kt
    obtain ⟨cq67, kq67, q67a, q67b, q67c⟩ := isOf hZ e10 J10_0
    obtain ⟨_, _, ⟨T67, L67, k67, n67⟩, -, X67, ⟨Lc67, hQ67, l67, y67, z67⟩, st67⟩ := X10.virtualBack hx (y := (⟨"org/reachwatch/IntBlocks", "add", "(I)V"⟩ : MethodName)) (z := (⟨"org/reachwatch/IntBlocks", "add", "(I)V"⟩ : MethodName)) hown (mvT hZ (W 14 rfl)) (mvT hZ (W 15 rfl)) (notFace_of_selects (args := #[]) (mvT hZ (W 17 rfl))) (mvT hZ (W 17 rfl)) (mvT hZ (W 16 rfl)) (by decide) (backOf (W := 0) (rm_add3_0 l Z a0 hw [] b4 p0 b51_10 k51_10 h10 n0 O10 g_b4 g_b51_10 J10_0 J10_1 J10_2 J10_3 J10_4 J10_5 (fun q => ne_b4_b51_10 q.symm)) hZ (W 18 rfl) (W 3 rfl) (by decide) (by decide)) q67a q67c (g := (mkF m 22 #[iv p0, iv p1, iv p2, iv p3, iv p4, iv p5, iv (1 : Int32), rv b4, .unset, .unset, .unset, .unset, .unset] [(.int p0), (.ref b4)])) rfl (by rw [hml]; rfl) (Steps.refl _) (argsL := [(.int p0)]) (rest := []) (lenOf pd_6 rfl) rfl (by show 2 * 0 + _ ≤ _; exact Nat.le_of_eq rfl) (hb hby at_22) (fun _ _ => ⟨rfl, e10, (by decide : 2 + 1 ≤ _), (by decide : 3 + 16 ≤ _)⟩)
    dsimp only [Pt.U, Pt.locs, Pt.cells, Pt.slots] at X67 l67 y67 z67 st67 hQ67
    replace l67 := l67.symm
    replace y67 : 3 = k67 := y67.symm
    replace z67 : 19 = n67 := z67.symm
    subst l67 y67 z67
    obtain ⟨b221_67, k221_67, rfl, M67, Kc67, O67, J67_0, J67_1, J67_2, J67_3, J67_4, J67_5, J67_6, P67_0⟩ := hQ67
    obtain ⟨h67, e67⟩ : ∃ z, T67.heap = z := ⟨_, rfl⟩
    rw [e67] at Kc67 O67 J67_0 J67_1 J67_2 J67_3 J67_4 J67_5 J67_6
    try rw [e67] at P67_0
    have N67 := Fr.app N10 M67
    have K67 : Keep h0 h67 [] := K10.trans Kc67 (own_all2 (Or.inr sz_b4) (Or.inr sz_b51_10))
    have pre269 : ∀ t, Steps p.tables e below (T67.setTop (mkF m 25 #[iv p0, iv p1, iv p2, iv p3, iv p4, iv p5, iv (1 : Int32), rv b4, .unset, .unset, .unset, .unset, .unset] [])) t → Steps p.tables e below (s₁.setTop (entryFrame m #[(.int p0), (.int p1), (.int p2), (.int p3), (.int p4), (.int p5)] maxLocals)) t := fun t kt => pre66 _ (st67.trans kt)
    have sz_b221_67 : h0.size ≤ b221_67 := Nat.le_trans K10.1 P67_0
    have ne_b4_b221_67 : b4 ≠ b221_67 := Nat.ne_of_lt (Nat.lt_of_lt_of_le J10_0.lt P67_0)
    have ne_b51_10_b221_67 : b51_10 ≠ b221_67 := Nat.ne_of_lt (Nat.lt_of_lt_of_le J10_2.lt P67_0)
    have g_b221_67 : n0 ≤ b221_67 := Nat.le_trans (Nat.le_trans (Nat.le_of_eq O0.1.symm) O0.2.1) sz_b221_67
    have pre270 : ∀ t, Steps p.tables e below (T67.setTop (mkF m 57 #[iv p0, iv p1, iv p2, iv p3, iv p4, iv p5, iv (1 : Int32), rv b4, .unset, .unset, .unset, .unset, .unset] [(.int ((p4 &&& (2147483647 : Int32)) - ((p4 &&& (2147483647 : Int32)) / (1 : Int32)) * (1 : Int32)))])) t → Steps p.tables e below (s₁.setTop (entryFrame m #[(.int p0), (.int p1), (.int p2), (.int p3), (.int p4), (.int p5)] maxLocals)) t := fun t kt => by
      refine pre269 _ ?_
      show Steps p.tables e below (T67.setTop (mkF m 25 #[iv p0, iv p1, iv p2, iv p3, iv p4, iv p5, iv (1 : Int32), rv b4, .unset, .unset, .unset, .unset, .unset] [])) _
      refine XS.iload X67.here hx rfl (hb hby at_25) rfl ?_
      show Steps p.tables e below (T67.setTop (mkF m 27 #[iv p0, iv p1, iv p2, iv p3, iv p4, iv p5, iv (1 : Int32), rv b4, .unset, .unset, .unset, .unset, .unset] [(.int (1 : Int32))])) _
      refine XS.iconst X67.here hx rfl (hb hby at_27) ?_
      show Steps p.tables e below (T67.setTop (mkF m 28 #[iv p0, iv p1, iv p2, iv p3, iv p4, iv p5, iv (1 : Int32), rv b4, .unset, .unset, .unset, .unset, .unset] [(.int (2 : Int32)), (.int (1 : Int32))])) _
      refine XS.icmpYes X67.here hx rfl (pc0 := 28) (pc' := 37) rfl (hb hby at_28) rfl (XT.ii_lt_t (by decide)) (by decide) (by decide) ?_
      show Steps p.tables e below (T67.setTop (mkF m 37 #[iv p0, iv p1, iv p2, iv p3, iv p4, iv p5, iv (1 : Int32), rv b4, .unset, .unset, .unset, .unset, .unset] [])) _
      refine XS.iload X67.here hx rfl (hb hby at_37) rfl ?_
      show Steps p.tables e below (T67.setTop (mkF m 39 #[iv p0, iv p1, iv p2, iv p3, iv p4, iv p5, iv (1 : Int32), rv b4, .unset, .unset, .unset, .unset, .unset] [(.int (1 : Int32))])) _
      refine XS.iconst X67.here hx rfl (hb hby at_39) ?_
      show Steps p.tables e below (T67.setTop (mkF m 40 #[iv p0, iv p1, iv p2, iv p3, iv p4, iv p5, iv (1 : Int32), rv b4, .unset, .unset, .unset, .unset, .unset] [(.int (3 : Int32)), (.int (1 : Int32))])) _
      refine XS.icmpYes X67.here hx rfl (pc0 := 40) (pc' := 49) rfl (hb hby at_40) rfl (XT.ii_lt_t (by decide)) (by decide) (by decide) ?_
      show Steps p.tables e below (T67.setTop (mkF m 49 #[iv p0, iv p1, iv p2, iv p3, iv p4, iv p5, iv (1 : Int32), rv b4, .unset, .unset, .unset, .unset, .unset] [])) _
      refine XS.iload X67.here hx rfl (hb hby at_49) rfl ?_
      show Steps p.tables e below (T67.setTop (mkF m 51 #[iv p0, iv p1, iv p2, iv p3, iv p4, iv p5, iv (1 : Int32), rv b4, .unset, .unset, .unset, .unset, .unset] [(.int p4)])) _
      refine X67.ldcInt hx hown (mvT hZ (W 0 rfl)) (g := (mkF m 51 #[iv p0, iv p1, iv p2, iv p3, iv p4, iv p5, iv (1 : Int32), rv b4, .unset, .unset, .unset, .unset, .unset] [(.int p4)])) rfl (hb hby at_51) _ ?_
      show Steps p.tables e below (T67.setTop (mkF m 53 #[iv p0, iv p1, iv p2, iv p3, iv p4, iv p5, iv (1 : Int32), rv b4, .unset, .unset, .unset, .unset, .unset] [(.int (2147483647 : Int32)), (.int p4)])) _
      refine XS.iand X67.here hx rfl (hb hby at_53) rfl ?_
      show Steps p.tables e below (T67.setTop (mkF m 54 #[iv p0, iv p1, iv p2, iv p3, iv p4, iv p5, iv (1 : Int32), rv b4, .unset, .unset, .unset, .unset, .unset] [(.int (p4 &&& (2147483647 : Int32)))])) _
      refine XS.iload X67.here hx rfl (hb hby at_54) rfl ?_
      show Steps p.tables e below (T67.setTop (mkF m 56 #[iv p0, iv p1, iv p2, iv p3, iv p4, iv p5, iv (1 : Int32), rv b4, .unset, .unset, .unset, .unset, .unset] [(.int (1 : Int32)), (.int (p4 &&& (2147483647 : Int32)))])) _
      refine XS.irem X67.here hx rfl (hb hby at_56) rfl (by decide) ?_
      exact kt
    rcases own_rem1 p4 with hv271
    · rw [hv271] at pre270
      have pre272 : ∀ t, Steps p.tables e below (T67.setTop (mkF m 65 #[iv p0, iv p1, iv p2, iv p3, iv p4, iv p5, iv (1 : Int32), rv b4, iv (0 : Int32), .unset, .unset, .unset, .unset] [(.int p5), (.int (0 : Int32)), (.ref b4)])) t → Steps p.tables e below (s₁.setTop (entryFrame m #[(.int p0), (.int p1), (.int p2), (.int p3), (.int p4), (.int p5)] maxLocals)) t := fun t kt => by
        refine pre270 _ ?_
        show Steps p.tables e below (T67.setTop (mkF m 57 #[iv p0, iv p1, iv p2, iv p3, iv p4, iv p5, iv (1 : Int32), rv b4, .unset, .unset, .unset, .unset, .unset] [(.int (0 : Int32))])) _
        refine XS.istore X67.here hx rfl (hb hby at_57) rfl (l' := #[iv p0, iv p1, iv p2, iv p3, iv p4, iv p5, iv (1 : Int32), rv b4, iv (0 : Int32), .unset, .unset, .unset, .unset]) rfl ?_
        show Steps p.tables e below (T67.setTop (mkF m 59 #[iv p0, iv p1, iv p2, iv p3, iv p4, iv p5, iv (1 : Int32), rv b4, iv (0 : Int32), .unset, .unset, .unset, .unset] [])) _
        refine XS.aload X67.here hx rfl (hb hby at_59) rfl rfl ?_
        show Steps p.tables e below (T67.setTop (mkF m 61 #[iv p0, iv p1, iv p2, iv p3, iv p4, iv p5, iv (1 : Int32), rv b4, iv (0 : Int32), .unset, .unset, .unset, .unset] [(.ref b4)])) _
        refine XS.iload X67.here hx rfl (hb hby at_61) rfl ?_
        show Steps p.tables e below (T67.setTop (mkF m 63 #[iv p0, iv p1, iv p2, iv p3, iv p4, iv p5, iv (1 : Int32), rv b4, iv (0 : Int32), .unset, .unset, .unset, .unset] [(.int (0 : Int32)), (.ref b4)])) _
        refine XS.iload X67.here hx rfl (hb hby at_63) rfl ?_
        exact kt
      obtain ⟨cq273, kq273, q273a, q273b, q273c⟩ := isOf hZ e67 J67_0
      obtain ⟨_, _, ⟨T273, L273, k273, n273⟩, -, X273, ⟨Lc273, hQ273, l273, y273, z273⟩, st273⟩ := X67.virtualBack hx (y := (⟨"org/reachwatch/IntBlocks", "set", "(II)V"⟩ : MethodName)) (z := (⟨"org/reachwatch/IntBlocks", "set", "(II)V"⟩ : MethodName)) hown (mvT hZ (W 24 rfl)) (mvT hZ (W 25 rfl)) (notFace_of_selects (args := #[]) (mvT hZ (W 27 rfl))) (mvT hZ (W 27 rfl)) (mvT hZ (W 26 rfl)) (by decide) (backOf (W := 0) (rm_set4_0 l Z a0 hw [] b4 p5 k51_10 b51_10 b221_67 p0 k221_67 h67 n0 O67 g_b221_67 J67_2 J67_3 J67_4 J67_5 J67_6 (fun q => ne_b4_b221_67 q.symm) (fun q => ne_b51_10_b221_67 q.symm)) hZ (W 28 rfl) (W 3 rfl) (by decide) (by decide)) q273a q273c (g := (mkF m 65 #[iv p0, iv p1, iv p2, iv p3, iv p4, iv p5, iv (1 : Int32), rv b4, iv (0 : Int32), .unset, .unset, .unset, .unset] [(.int p5), (.int (0 : Int32)), (.ref b4)])) rfl (by rw [hml]; rfl) (Steps.refl _) (argsL := [(.int (0 : Int32)), (.int p5)]) (rest := []) (lenOf pd_14 rfl) rfl (by show 2 * 0 + _ ≤ _; exact Nat.le_of_eq rfl) (hb hby at_65) (fun _ _ => ⟨rfl, e67, (by decide : 3 + 0 ≤ _), (by decide : 19 + 0 ≤ _)⟩)
      dsimp only [Pt.U, Pt.locs, Pt.cells, Pt.slots] at X273 l273 y273 z273 st273 hQ273
      replace l273 := l273.symm
      replace y273 : 3 = k273 := y273.symm
      replace z273 : 19 = n273 := z273.symm
      subst l273 y273 z273
      obtain ⟨rfl, M273, Kc273, O273, J273_0, J273_1⟩ := hQ273
      obtain ⟨h273, e273⟩ : ∃ z, T273.heap = z := ⟨_, rfl⟩
      rw [e273] at Kc273 O273 J273_0 J273_1
      have N273 := Fr.app N67 M273
      have K273 : Keep h0 h273 [] := K67.trans Kc273 (own_all1 (Or.inr sz_b221_67))
      have pre345 : ∀ t, Steps p.tables e below (T273.setTop (mkF m 68 #[iv p0, iv p1, iv p2, iv p3, iv p4, iv p5, iv (1 : Int32), rv b4, iv (0 : Int32), .unset, .unset, .unset, .unset] [])) t → Steps p.tables e below (s₁.setTop (entryFrame m #[(.int p0), (.int p1), (.int p2), (.int p3), (.int p4), (.int p5)] maxLocals)) t := fun t kt => pre272 _ (st273.trans kt)
      have F346 := J67_0.keep Kc273
      have F347 := J67_1.keep Kc273
      have F348 := J67_2.keep Kc273 (own_nm1 ne_b4_b221_67)
      have F349 := J67_4.keep Kc273 (own_nm1 ne_b51_10_b221_67)
      have F350 := J67_6.keep Kc273 (own_nm1 ne_b4_b221_67)
      have pre351 : ∀ t, Steps p.tables e below (T273.setTop (mkF m 111 #[iv p0, iv p1, iv p2, iv p3, iv p4, iv p5, iv (1 : Int32), rv b4, iv (0 : Int32), iv p5, iv p1, iv p2, .unset] [(.ref b4)])) t → Steps p.tables e below (s₁.setTop (entryFrame m #[(.int p0), (.int p1), (.int p2), (.int p3), (.int p4), (.int p5)] maxLocals)) t := fun t kt => by
        refine pre345 _ ?_
        show Steps p.tables e below (T273.setTop (mkF m 68 #[iv p0, iv p1, iv p2, iv p3, iv p4, iv p5, iv (1 : Int32), rv b4, iv (0 : Int32), .unset, .unset, .unset, .unset] [])) _
        refine XS.iload X273.here hx rfl (hb hby at_68) rfl ?_
        show Steps p.tables e below (T273.setTop (mkF m 70 #[iv p0, iv p1, iv p2, iv p3, iv p4, iv p5, iv (1 : Int32), rv b4, iv (0 : Int32), .unset, .unset, .unset, .unset] [(.int (0 : Int32))])) _
        refine XS.ifNo X273.here hx rfl (hb hby at_70) rfl (XT.i0_ne_f (by decide)) ?_
        show Steps p.tables e below (T273.setTop (mkF m 73 #[iv p0, iv p1, iv p2, iv p3, iv p4, iv p5, iv (1 : Int32), rv b4, iv (0 : Int32), .unset, .unset, .unset, .unset] [])) _
        refine XS.iload X273.here hx rfl (hb hby at_73) rfl ?_
        show Steps p.tables e below (T273.setTop (mkF m 75 #[iv p0, iv p1, iv p2, iv p3, iv p4, iv p5, iv (1 : Int32), rv b4, iv (0 : Int32), .unset, .unset, .unset, .unset] [(.int p5)])) _
        refine XS.goto X273.here hx rfl (pc0 := 75) (pc' := 79) rfl (hb hby at_75) (by decide) (by decide) ?_
        show Steps p.tables e below (T273.setTop (mkF m 79 #[iv p0, iv p1, iv p2, iv p3, iv p4, iv p5, iv (1 : Int32), rv b4, iv (0 : Int32), .unset, .unset, .unset, .unset] [(.int p5)])) _
        refine XS.istore X273.here hx rfl (hb hby at_79) rfl (l' := #[iv p0, iv p1, iv p2, iv p3, iv p4, iv p5, iv (1 : Int32), rv b4, iv (0 : Int32), iv p5, .unset, .unset, .unset]) rfl ?_
        show Steps p.tables e below (T273.setTop (mkF m 81 #[iv p0, iv p1, iv p2, iv p3, iv p4, iv p5, iv (1 : Int32), rv b4, iv (0 : Int32), iv p5, .unset, .unset, .unset] [])) _
        refine XS.iload X273.here hx rfl (hb hby at_81) rfl ?_
        show Steps p.tables e below (T273.setTop (mkF m 83 #[iv p0, iv p1, iv p2, iv p3, iv p4, iv p5, iv (1 : Int32), rv b4, iv (0 : Int32), iv p5, .unset, .unset, .unset] [(.int (0 : Int32))])) _
        refine XS.iconst X273.here hx rfl (hb hby at_83) ?_
        show Steps p.tables e below (T273.setTop (mkF m 84 #[iv p0, iv p1, iv p2, iv p3, iv p4, iv p5, iv (1 : Int32), rv b4, iv (0 : Int32), iv p5, .unset, .unset, .unset] [(.int (1 : Int32)), (.int (0 : Int32))])) _
        refine XS.icmpYes X273.here hx rfl (pc0 := 84) (pc' := 92) rfl (hb hby at_84) rfl (XT.ii_ne_t (by decide)) (by decide) (by decide) ?_
        show Steps p.tables e below (T273.setTop (mkF m 92 #[iv p0, iv p1, iv p2, iv p3, iv p4, iv p5, iv (1 : Int32), rv b4, iv (0 : Int32), iv p5, .unset, .unset, .unset] [])) _
        refine XS.iloadN X273.here hx rfl (hb hby at_92) rfl ?_
        show Steps p.tables e below (T273.setTop (mkF m 93 #[iv p0, iv p1, iv p2, iv p3, iv p4, iv p5, iv (1 : Int32), rv b4, iv (0 : Int32), iv p5, .unset, .unset, .unset] [(.int p1)])) _
        refine XS.istore X273.here hx rfl (hb hby at_93) rfl (l' := #[iv p0, iv p1, iv p2, iv p3, iv p4, iv p5, iv (1 : Int32), rv b4, iv (0 : Int32), iv p5, iv p1, .unset, .unset]) rfl ?_
        show Steps p.tables e below (T273.setTop (mkF m 95 #[iv p0, iv p1, iv p2, iv p3, iv p4, iv p5, iv (1 : Int32), rv b4, iv (0 : Int32), iv p5, iv p1, .unset, .unset] [])) _
        refine XS.iload X273.here hx rfl (hb hby at_95) rfl ?_
        show Steps p.tables e below (T273.setTop (mkF m 97 #[iv p0, iv p1, iv p2, iv p3, iv p4, iv p5, iv (1 : Int32), rv b4, iv (0 : Int32), iv p5, iv p1, .unset, .unset] [(.int (0 : Int32))])) _
        refine XS.iconst X273.here hx rfl (hb hby at_97) ?_
        show Steps p.tables e below (T273.setTop (mkF m 98 #[iv p0, iv p1, iv p2, iv p3, iv p4, iv p5, iv (1 : Int32), rv b4, iv (0 : Int32), iv p5, iv p1, .unset, .unset] [(.int (2 : Int32)), (.int (0 : Int32))])) _
        refine XS.icmpYes X273.here hx rfl (pc0 := 98) (pc' := 106) rfl (hb hby at_98) rfl (XT.ii_ne_t (by decide)) (by decide) (by decide) ?_
        show Steps p.tables e below (T273.setTop (mkF m 106 #[iv p0, iv p1, iv p2, iv p3, iv p4, iv p5, iv (1 : Int32), rv b4, iv (0 : Int32), iv p5, iv p1, .unset, .unset] [])) _
        refine XS.iloadN X273.here hx rfl (hb hby at_106) rfl ?_
        show Steps p.tables e below (T273.setTop (mkF m 107 #[iv p0, iv p1, iv p2, iv p3, iv p4, iv p5, iv (1 : Int32), rv b4, iv (0 : Int32), iv p5, iv p1, .unset, .unset] [(.int p2)])) _
        refine XS.istore X273.here hx rfl (hb hby at_107) rfl (l' := #[iv p0, iv p1, iv p2, iv p3, iv p4, iv p5, iv (1 : Int32), rv b4, iv (0 : Int32), iv p5, iv p1, iv p2, .unset]) rfl ?_
        show Steps p.tables e below (T273.setTop (mkF m 109 #[iv p0, iv p1, iv p2, iv p3, iv p4, iv p5, iv (1 : Int32), rv b4, iv (0 : Int32), iv p5, iv p1, iv p2, .unset] [])) _
        refine XS.aload X273.here hx rfl (hb hby at_109) rfl rfl ?_
        exact kt
      obtain ⟨cq352, kq352, q352a, q352b, q352c⟩ := isOf hZ e273 F346
      obtain ⟨_, _, ⟨T352, L352, k352, n352⟩, -, X352, ⟨Lc352, hQ352, l352, y352, z352⟩, st352⟩ := X273.virtualBack hx (y := (⟨"org/reachwatch/IntBlocks", "size", "()I"⟩ : MethodName)) (z := (⟨"org/reachwatch/IntBlocks", "size", "()I"⟩ : MethodName)) hown (mvT hZ (W 37 rfl)) (mvT hZ (W 38 rfl)) (notFace_of_selects (args := #[]) (mvT hZ (W 40 rfl))) (mvT hZ (W 40 rfl)) (mvT hZ (W 39 rfl)) (by decide) (backOf (W := 0) (rm_size7_0 l Z a0 hw [] b4 h273 n0 O273 F350) hZ (W 41 rfl) (W 3 rfl) (by decide) (by decide)) q352a q352c (g := (mkF m 111 #[iv p0, iv p1, iv p2, iv p3, iv p4, iv p5, iv (1 : Int32), rv b4, iv (0 : Int32), iv p5, iv p1, iv p2, .unset] [(.ref b4)])) rfl (by rw [hml]; rfl) (Steps.refl _) (argsL := []) (rest := []) (lenOf pd_16 rfl) rfl (by show 2 * 0 + _ ≤ _; exact Nat.le_of_eq rfl) (hb hby at_111) (fun _ _ => ⟨rfl, e273, (by decide : 3 + 0 ≤ _), (by decide : 19 + 0 ≤ _)⟩)
      dsimp only [Pt.U, Pt.locs, Pt.cells, Pt.slots] at X352 l352 y352 z352 st352 hQ352
      replace l352 := l352.symm
      replace y352 : 3 = k352 := y352.symm
      replace z352 : 19 = n352 := z352.symm
      subst l352 y352 z352
      obtain ⟨rfl, M352, e352⟩ := hQ352
      have N352 := Fr.app N273 M352
      have pre362 : ∀ t, Steps p.tables e below (T352.setTop (mkF m 114 #[iv p0, iv p1, iv p2, iv p3, iv p4, iv p5, iv (1 : Int32), rv b4, iv (0 : Int32), iv p5, iv p1, iv p2, .unset] [(.int (1 : Int32))])) t → Steps p.tables e below (s₁.setTop (entryFrame m #[(.int p0), (.int p1), (.int p2), (.int p3), (.int p4), (.int p5)] maxLocals)) t := fun t kt => pre351 _ (st352.trans kt)
      have pre363 : ∀ t, Steps p.tables e below (T352.setTop (mkF m 122 #[iv p0, iv p1, iv p2, iv p3, iv p4, iv p5, iv (1 : Int32), rv b4, iv (0 : Int32), iv p5, iv p1, iv p2, .unset] [(.int (0 : Int32)), (.ref b4)])) t → Steps p.tables e below (s₁.setTop (entryFrame m #[(.int p0), (.int p1), (.int p2), (.int p3), (.int p4), (.int p5)] maxLocals)) t := fun t kt => by
        refine pre362 _ ?_
        show Steps p.tables e below (T352.setTop (mkF m 114 #[iv p0, iv p1, iv p2, iv p3, iv p4, iv p5, iv (1 : Int32), rv b4, iv (0 : Int32), iv p5, iv p1, iv p2, .unset] [(.int (1 : Int32))])) _
        refine XS.iload X352.here hx rfl (hb hby at_114) rfl ?_
        show Steps p.tables e below (T352.setTop (mkF m 116 #[iv p0, iv p1, iv p2, iv p3, iv p4, iv p5, iv (1 : Int32), rv b4, iv (0 : Int32), iv p5, iv p1, iv p2, .unset] [(.int (1 : Int32)), (.int (1 : Int32))])) _
        refine XS.icmpNo X352.here hx rfl (hb hby at_116) rfl (XT.ii_ne_f (by decide)) ?_
        show Steps p.tables e below (T352.setTop (mkF m 119 #[iv p0, iv p1, iv p2, iv p3, iv p4, iv p5, iv (1 : Int32), rv b4, iv (0 : Int32), iv p5, iv p1, iv p2, .unset] [])) _
        refine XS.aload X352.here hx rfl (hb hby at_119) rfl rfl ?_
        show Steps p.tables e below (T352.setTop (mkF m 121 #[iv p0, iv p1, iv p2, iv p3, iv p4, iv p5, iv (1 : Int32), rv b4, iv (0 : Int32), iv p5, iv p1, iv p2, .unset] [(.ref b4)])) _
        refine XS.iconst X352.here hx rfl (hb hby at_121) ?_
        exact kt
      obtain ⟨cq364, kq364, q364a, q364b, q364c⟩ := isOf hZ e352 F346
      obtain ⟨_, _, ⟨T364, L364, k364, n364⟩, -, X364, ⟨Lc364, hQ364, l364, y364, z364⟩, st364⟩ := X352.virtualBack hx (y := (⟨"org/reachwatch/IntBlocks", "get", "(I)I"⟩ : MethodName)) (z := (⟨"org/reachwatch/IntBlocks", "get", "(I)I"⟩ : MethodName)) hown (mvT hZ (W 42 rfl)) (mvT hZ (W 43 rfl)) (notFace_of_selects (args := #[]) (mvT hZ (W 45 rfl))) (mvT hZ (W 45 rfl)) (mvT hZ (W 44 rfl)) (by decide) (backOf (W := 0) (rm_get8_0 l Z a0 hw [] b4 k51_10 b51_10 b221_67 p5 k221_67 h273 n0 O273 F348 F349 F350 J273_1) hZ (W 46 rfl) (W 3 rfl) (by decide) (by decide)) q364a q364c (g := (mkF m 122 #[iv p0, iv p1, iv p2, iv p3, iv p4, iv p5, iv (1 : Int32), rv b4, iv (0 : Int32), iv p5, iv p1, iv p2, .unset] [(.int (0 : Int32)), (.ref b4)])) rfl (by rw [hml]; rfl) (Steps.refl _) (argsL := [(.int (0 : Int32))]) (rest := []) (lenOf pd_18 rfl) rfl (by show 2 * 0 + _ ≤ _; exact Nat.le_of_eq rfl) (hb hby at_122) (fun _ _ => ⟨rfl, e352, (by decide : 3 + 0 ≤ _), (by decide : 19 + 0 ≤ _)⟩)
      dsimp only [Pt.U, Pt.locs, Pt.cells, Pt.slots] at X364 l364 y364 z364 st364 hQ364
      replace l364 := l364.symm
      replace y364 : 3 = k364 := y364.symm
      replace z364 : 19 = n364 := z364.symm
      subst l364 y364 z364
      obtain ⟨rfl, M364, e364⟩ := hQ364
      have N364 := Fr.app N352 M364
      have pre404 : ∀ t, Steps p.tables e below (T364.setTop (mkF m 125 #[iv p0, iv p1, iv p2, iv p3, iv p4, iv p5, iv (1 : Int32), rv b4, iv (0 : Int32), iv p5, iv p1, iv p2, .unset] [(.int p5)])) t → Steps p.tables e below (s₁.setTop (entryFrame m #[(.int p0), (.int p1), (.int p2), (.int p3), (.int p4), (.int p5)] maxLocals)) t := fun t kt => pre363 _ (st364.trans kt)
      have pre405 : ∀ t, Steps p.tables e below (T364.setTop (mkF m 197 #[iv p0, iv p1, iv p2, iv p3, iv p4, iv p5, iv (1 : Int32), rv b4, iv (0 : Int32), iv p5, iv p1, iv p2, iv (1 : Int32)] [(.int (1 : Int32))])) t → Steps p.tables e below (s₁.setTop (entryFrame m #[(.int p0), (.int p1), (.int p2), (.int p3), (.int p4), (.int p5)] maxLocals)) t := fun t kt => by
        refine pre404 _ ?_
        show Steps p.tables e below (T364.setTop (mkF m 125 #[iv p0, iv p1, iv p2, iv p3, iv p4, iv p5, iv (1 : Int32), rv b4, iv (0 : Int32), iv p5, iv p1, iv p2, .unset] [(.int p5)])) _
        refine XS.iload X364.here hx rfl (hb hby at_125) rfl ?_
        show Steps p.tables e below (T364.setTop (mkF m 127 #[iv p0, iv p1, iv p2, iv p3, iv p4, iv p5, iv (1 : Int32), rv b4, iv (0 : Int32), iv p5, iv p1, iv p2, .unset] [(.int p5), (.int p5)])) _
        refine XS.icmpNo X364.here hx rfl (hb hby at_127) rfl (XT.ii_ne_f rfl) ?_
        show Steps p.tables e below (T364.setTop (mkF m 130 #[iv p0, iv p1, iv p2, iv p3, iv p4, iv p5, iv (1 : Int32), rv b4, iv (0 : Int32), iv p5, iv p1, iv p2, .unset] [])) _
        refine XS.iconst X364.here hx rfl (hb hby at_130) ?_
        show Steps p.tables e below (T364.setTop (mkF m 131 #[iv p0, iv p1, iv p2, iv p3, iv p4, iv p5, iv (1 : Int32), rv b4, iv (0 : Int32), iv p5, iv p1, iv p2, .unset] [(.int (1 : Int32))])) _
        refine XS.goto X364.here hx rfl (pc0 := 131) (pc' := 135) rfl (hb hby at_131) (by decide) (by decide) ?_
        show Steps p.tables e below (T364.setTop (mkF m 135 #[iv p0, iv p1, iv p2, iv p3, iv p4, iv p5, iv (1 : Int32), rv b4, iv (0 : Int32), iv p5, iv p1, iv p2, .unset] [(.int (1 : Int32))])) _
        refine XS.istore X364.here hx rfl (hb hby at_135) rfl (l' := #[iv p0, iv p1, iv p2, iv p3, iv p4, iv p5, iv (1 : Int32), rv b4, iv (0 : Int32), iv p5, iv p1, iv p2, iv (1 : Int32)]) rfl ?_
        show Steps p.tables e below (T364.setTop (mkF m 137 #[iv p0, iv p1, iv p2, iv p3, iv p4, iv p5, iv (1 : Int32), rv b4, iv (0 : Int32), iv p5, iv p1, iv p2, iv (1 : Int32)] [])) _
        refine XS.iload X364.here hx rfl (hb hby at_137) rfl ?_
        show Steps p.tables e below (T364.setTop (mkF m 139 #[iv p0, iv p1, iv p2, iv p3, iv p4, iv p5, iv (1 : Int32), rv b4, iv (0 : Int32), iv p5, iv p1, iv p2, iv (1 : Int32)] [(.int (1 : Int32))])) _
        refine XS.iconst X364.here hx rfl (hb hby at_139) ?_
        show Steps p.tables e below (T364.setTop (mkF m 140 #[iv p0, iv p1, iv p2, iv p3, iv p4, iv p5, iv (1 : Int32), rv b4, iv (0 : Int32), iv p5, iv p1, iv p2, iv (1 : Int32)] [(.int (2 : Int32)), (.int (1 : Int32))])) _
        refine XS.icmpYes X364.here hx rfl (pc0 := 140) (pc' := 166) rfl (hb hby at_140) rfl (XT.ii_lt_t (by decide)) (by decide) (by decide) ?_
        show Steps p.tables e below (T364.setTop (mkF m 166 #[iv p0, iv p1, iv p2, iv p3, iv p4, iv p5, iv (1 : Int32), rv b4, iv (0 : Int32), iv p5, iv p1, iv p2, iv (1 : Int32)] [])) _
        refine XS.iload X364.here hx rfl (hb hby at_166) rfl ?_
        show Steps p.tables e below (T364.setTop (mkF m 168 #[iv p0, iv p1, iv p2, iv p3, iv p4, iv p5, iv (1 : Int32), rv b4, iv (0 : Int32), iv p5, iv p1, iv p2, iv (1 : Int32)] [(.int (1 : Int32))])) _
        refine XS.iconst X364.here hx rfl (hb hby at_168) ?_
        show Steps p.tables e below (T364.setTop (mkF m 169 #[iv p0, iv p1, iv p2, iv p3, iv p4, iv p5, iv (1 : Int32), rv b4, iv (0 : Int32), iv p5, iv p1, iv p2, iv (1 : Int32)] [(.int (3 : Int32)), (.int (1 : Int32))])) _
        refine XS.icmpYes X364.here hx rfl (pc0 := 169) (pc' := 195) rfl (hb hby at_169) rfl (XT.ii_lt_t (by decide)) (by decide) (by decide) ?_
        show Steps p.tables e below (T364.setTop (mkF m 195 #[iv p0, iv p1, iv p2, iv p3, iv p4, iv p5, iv (1 : Int32), rv b4, iv (0 : Int32), iv p5, iv p1, iv p2, iv (1 : Int32)] [])) _
        refine XS.iload X364.here hx rfl (hb hby at_195) rfl ?_
        exact kt
      obtain ⟨fs, hr, hrun, hended, hW, hsame⟩ := X364.leave (v := some (.int (1 : Int32))) (fun h => by rw [Bd.returns] at h; cases h)
      refine ⟨_, _, pre405 _ (retN X364 hx (t := .boolean) Bd.returns (by simp) (hb hby at_197) hr), hrun, hended, _, _, rfl, ?_, ⟨_, rfl⟩, hW, hsame.mono (by decide) (by decide)⟩
      show Q_law Z p0 p1 p2 p3 p4 p5 h0 n0 _ T364.heap _
      rw [e364]
      exact ⟨rfl, N364⟩
  · rw [hv2] at pre1
    have pre406 : ∀ t, Steps p.tables e below (s₁.setTop (mkF m 10 #[iv p0, iv p1, iv p2, iv p3, iv p4, iv p5, iv (2 : Int32), .unset, .unset, .unset, .unset, .unset, .unset] [])) t → Steps p.tables e below (s₁.setTop (entryFrame m #[(.int p0), (.int p1), (.int p2), (.int p3), (.int p4), (.int p5)] maxLocals)) t := fun t kt => by
      refine pre1 _ ?_
      show Steps p.tables e below (s₁.setTop (mkF m 7 #[iv p0, iv p1, iv p2, iv p3, iv p4, iv p5, .unset, .unset, .unset, .unset, .unset, .unset, .unset] [(.int (1 : Int32)), (.int (1 : Int32))])) _
      refine XS.iadd X0.here hx rfl (hb hby at_7) rfl ?_
      show  Steps p.tables e below (s₁.setTop (mkF m 8 #[iv p0, iv p1, iv p2, iv p3, iv p4, iv p5, .unset, .unset, .unset, .unset, .unset, .unset, .unset] [(.int ((1 : Int32) + (1 : Int32)))])) _
      rw [(by decide : (((1 : Int32) + (1 : Int32)) : Int32) = (2 : Int32))]
      show Steps p.tables e below (s₁.setTop (mkF m 8 #[iv p0, iv p1, iv p2, iv p3, iv p4, iv p5, .unset, .unset, .unset, .unset, .unset, .unset, .unset] [(.int (2 : Int32))])) _
      refine XS.istore X0.here hx rfl (hb hby at_8) rfl (l' := #[iv p0, iv p1, iv p2, iv p3, iv p4, iv p5, iv (2 : Int32), .unset, .unset, .unset, .unset, .unset, .unset]) rfl ?_
      exact kt
    obtain ⟨T407, h407, X407, e407, E407, A407, D407, -, st407⟩ := newO X0 hx hZ hown (W 1 rfl) (W 2 rfl) (W 3 rfl) e0 (g := (mkF m 10 #[iv p0, iv p1, iv p2, iv p3, iv p4, iv p5, iv (2 : Int32), .unset, .unset, .unset, .unset, .unset, .unset] [])) rfl (hb hby at_10) (by decide) (by decide)
    obtain ⟨b407, g407⟩ : ∃ z, z = h0.size := ⟨_, rfl⟩
    rw [← g407] at A407 D407 st407
    have pre408 : ∀ t, Steps p.tables e below (T407.setTop (mkF m 13 #[iv p0, iv p1, iv p2, iv p3, iv p4, iv p5, iv (2 : Int32), .unset, .unset, .unset, .unset, .unset, .unset] [(.ref b407)])) t → Steps p.tables e below (s₁.setTop (entryFrame m #[(.int p0), (.int p1), (.int p2), (.int p3), (.int p4), (.int p5)] maxLocals)) t := fun t kt => pre406 _ (st407 _ kt)
    have O407 := O0.ext E407
    have K407 : Keep h0 h407 [] := K0.ext E407
    have g_b407 : n0 ≤ b407 := Nat.le_trans (Nat.le_trans (Nat.le_of_eq O0.1.symm) O0.2.1) (Nat.le_of_eq g407.symm)
    have sz_b407 : h0.size ≤ b407 := Nat.le_trans K0.1 (Nat.le_of_eq g407.symm)
    have F409 : Exa Z h407 b407 "org/reachwatch/IntBlocks" := A407
    have F410 : Fld Z h407 b407 "org/reachwatch/IntBlocks" "blocks" "[[I" .null := D407 (Or.inl (W 13 rfl)) (ty := (.array (.array .int))) (by decide)
    have F411 : Fld Z h407 b407 "org/reachwatch/IntBlocks" "size" "I" (.int (0 : Int32)) := D407 (Or.inl (W 20 rfl)) (ty := .int) (by decide)
    have pre412 : ∀ t, Steps p.tables e below (T407.setTop (mkF m 14 #[iv p0, iv p1, iv p2, iv p3, iv p4, iv p5, iv (2 : Int32), .unset, .unset, .unset, .unset, .unset, .unset] [(.ref b407), (.ref b407)])) t → Steps p.tables e below (s₁.setTop (entryFrame m #[(.int p0), (.int p1), (.int p2), (.int p3), (.int p4), (.int p5)] maxLocals)) t := fun t kt => by
      refine pre408 _ ?_
      show Steps p.tables e below (T407.setTop (mkF m 13 #[iv p0, iv p1, iv p2, iv p3, iv p4, iv p5, iv (2 : Int32), .unset, .unset, .unset, .unset, .unset, .unset] [(.ref b407)])) _
      refine XS.dup X407.here hx rfl (hb hby at_13) rfl rfl ?_
      exact kt
    obtain ⟨_, _, ⟨T413, L413, k413, n413⟩, -, X413, ⟨Lc413, hQ413, l413, y413, z413⟩, st413⟩ := X407.specialBack hx (y := (⟨"org/reachwatch/IntBlocks", "<init>", "()V"⟩ : MethodName)) rfl hown (mvT hZ (W 4 rfl)) (mvT hZ (W 5 rfl)) (mvT hZ (W 6 rfl)) (by decide) (backOf (W := 1) (rm_init1_0 l Z a0 hw [] b407 h407 n0 O407 g_b407 F409 F410 F411) hZ (W 6 rfl) (W 3 rfl) (by decide) (by decide)) (g := (mkF m 14 #[iv p0, iv p1, iv p2, iv p3, iv p4, iv p5, iv (2 : Int32), .unset, .unset, .unset, .unset, .unset, .unset] [(.ref b407), (.ref b407)])) rfl (by rw [hml]; rfl) (Steps.refl _) (a := b407) (argsL := []) (rest := [(.ref b407)]) (lenOf pd_4 rfl) rfl (by show 2 * 0 + _ ≤ _; exact Nat.le_of_eq rfl) (hb hby at_14) (fun _ _ => ⟨rfl, e407, (by decide : 1 + 1 ≤ _), (by decide : 2 + 1 ≤ _)⟩)
    dsimp only [Pt.U, Pt.locs, Pt.cells, Pt.slots] at X413 l413 y413 z413 st413 hQ413
    replace l413 := l413.symm
    replace y413 : 2 = k413 := y413.symm
    replace z413 : 3 = n413 := z413.symm
    subst l413 y413 z413
    obtain ⟨b51_413, k51_413, rfl, M413, Kc413, O413, J413_0, J413_1, J413_2, J413_3, J413_4, J413_5, P413_0⟩ := hQ413
    obtain ⟨h413, e413⟩ : ∃ z, T413.heap = z := ⟨_, rfl⟩
    rw [e413] at Kc413 O413 J413_0 J413_1 J413_2 J413_4 J413_5
    try rw [e413] at P413_0
    have N413 := Fr.app N0 M413
    have K413 : Keep h0 h413 [] := K407.trans Kc413 (own_all1 (Or.inr sz_b407))
    have pre414 : ∀ t, Steps p.tables e below (T413.setTop (mkF m 17 #[iv p0, iv p1, iv p2, iv p3, iv p4, iv p5, iv (2 : Int32), .unset, .unset, .unset, .unset, .unset, .unset] [(.ref b407)])) t → Steps p.tables e below (s₁.setTop (entryFrame m #[(.int p0), (.int p1), (.int p2), (.int p3), (.int p4), (.int p5)] maxLocals)) t := fun t kt => pre412 _ (st413.trans kt)
    have sz_b51_413 : h0.size ≤ b51_413 := Nat.le_trans K407.1 P413_0
    have ne_b407_b51_413 : b407 ≠ b51_413 := Nat.ne_of_lt (Nat.lt_of_lt_of_le F409.lt P413_0)
    have g_b51_413 : n0 ≤ b51_413 := Nat.le_trans (Nat.le_trans (Nat.le_of_eq O0.1.symm) O0.2.1) sz_b51_413
    have pre415 : ∀ t, Steps p.tables e below (T413.setTop (mkF m 22 #[iv p0, iv p1, iv p2, iv p3, iv p4, iv p5, iv (2 : Int32), rv b407, .unset, .unset, .unset, .unset, .unset] [(.int p0), (.ref b407)])) t → Steps p.tables e below (s₁.setTop (entryFrame m #[(.int p0), (.int p1), (.int p2), (.int p3), (.int p4), (.int p5)] maxLocals)) t := fun t kt => by
      refine pre414 _ ?_
      show Steps p.tables e below (T413.setTop (mkF m 17 #[iv p0, iv p1, iv p2, iv p3, iv p4, iv p5, iv (2 : Int32), .unset, .unset, .unset, .unset, .unset, .unset] [(.ref b407)])) _
      refine XS.astore X413.here hx rfl (hb hby at_17) rfl rfl (l' := #[iv p0, iv p1, iv p2, iv p3, iv p4, iv p5, iv (2 : Int32), rv b407, .unset, .unset, .unset, .unset, .unset]) rfl ?_
      show Steps p.tables e below (T413.setTop (mkF m 19 #[iv p0, iv p1, iv p2, iv p3, iv p4, iv p5, iv (2 : Int32), rv b407, .unset, .unset, .unset, .unset, .unset] [])) _
      refine XS.aload X413.here hx rfl (hb hby at_19) rfl rfl ?_
      show Steps p.tables e below (T413.setTop (mkF m 21 #[iv p0, iv p1, iv p2, iv p3, iv p4, iv p5, iv (2 : Int32), rv b407, .unset, .unset, .unset, .unset, .unset] [(.ref b407)])) _
      refine XS.iloadN X413.here hx rfl (hb hby at_21) rfl ?_
      exact kt
    obtain ⟨cq416, kq416, q416a, q416b, q416c⟩ := isOf hZ e413 J413_0
    obtain ⟨_, _, ⟨T416, L416, k416, n416⟩, -, X416, ⟨Lc416, hQ416, l416, y416, z416⟩, st416⟩ := X413.virtualBack hx (y := (⟨"org/reachwatch/IntBlocks", "add", "(I)V"⟩ : MethodName)) (z := (⟨"org/reachwatch/IntBlocks", "add", "(I)V"⟩ : MethodName)) hown (mvT hZ (W 14 rfl)) (mvT hZ (W 15 rfl)) (notFace_of_selects (args := #[]) (mvT hZ (W 17 rfl))) (mvT hZ (W 17 rfl)) (mvT hZ (W 16 rfl)) (by decide) (backOf (W := 0) (rm_add3_0 l Z a0 hw [] b407 p0 b51_413 k51_413 h413 n0 O413 g_b407 g_b51_413 J413_0 J413_1 J413_2 J413_3 J413_4 J413_5 (fun q => ne_b407_b51_413 q.symm)) hZ (W 18 rfl) (W 3 rfl) (by decide) (by decide)) q416a q416c (g := (mkF m 22 #[iv p0, iv p1, iv p2, iv p3, iv p4, iv p5, iv (2 : Int32), rv b407, .unset, .unset, .unset, .unset, .unset] [(.int p0), (.ref b407)])) rfl (by rw [hml]; rfl) (Steps.refl _) (argsL := [(.int p0)]) (rest := []) (lenOf pd_6 rfl) rfl (by show 2 * 0 + _ ≤ _; exact Nat.le_of_eq rfl) (hb hby at_22) (fun _ _ => ⟨rfl, e413, (by decide : 2 + 1 ≤ _), (by decide : 3 + 16 ≤ _)⟩)
    dsimp only [Pt.U, Pt.locs, Pt.cells, Pt.slots] at X416 l416 y416 z416 st416 hQ416
    replace l416 := l416.symm
    replace y416 : 3 = k416 := y416.symm
    replace z416 : 19 = n416 := z416.symm
    subst l416 y416 z416
    obtain ⟨b221_416, k221_416, rfl, M416, Kc416, O416, J416_0, J416_1, J416_2, J416_3, J416_4, J416_5, J416_6, P416_0⟩ := hQ416
    obtain ⟨h416, e416⟩ : ∃ z, T416.heap = z := ⟨_, rfl⟩
    rw [e416] at Kc416 O416 J416_0 J416_1 J416_2 J416_3 J416_4 J416_5 J416_6
    try rw [e416] at P416_0
    have N416 := Fr.app N413 M416
    have K416 : Keep h0 h416 [] := K413.trans Kc416 (own_all2 (Or.inr sz_b407) (Or.inr sz_b51_413))
    have pre417 : ∀ t, Steps p.tables e below (T416.setTop (mkF m 25 #[iv p0, iv p1, iv p2, iv p3, iv p4, iv p5, iv (2 : Int32), rv b407, .unset, .unset, .unset, .unset, .unset] [])) t → Steps p.tables e below (s₁.setTop (entryFrame m #[(.int p0), (.int p1), (.int p2), (.int p3), (.int p4), (.int p5)] maxLocals)) t := fun t kt => pre415 _ (st416.trans kt)
    have sz_b221_416 : h0.size ≤ b221_416 := Nat.le_trans K413.1 P416_0
    have ne_b407_b221_416 : b407 ≠ b221_416 := Nat.ne_of_lt (Nat.lt_of_lt_of_le J413_0.lt P416_0)
    have ne_b51_413_b221_416 : b51_413 ≠ b221_416 := Nat.ne_of_lt (Nat.lt_of_lt_of_le J413_2.lt P416_0)
    have g_b221_416 : n0 ≤ b221_416 := Nat.le_trans (Nat.le_trans (Nat.le_of_eq O0.1.symm) O0.2.1) sz_b221_416
    have pre418 : ∀ t, Steps p.tables e below (T416.setTop (mkF m 34 #[iv p0, iv p1, iv p2, iv p3, iv p4, iv p5, iv (2 : Int32), rv b407, .unset, .unset, .unset, .unset, .unset] [(.int p1), (.ref b407)])) t → Steps p.tables e below (s₁.setTop (entryFrame m #[(.int p0), (.int p1), (.int p2), (.int p3), (.int p4), (.int p5)] maxLocals)) t := fun t kt => by
      refine pre417 _ ?_
      show Steps p.tables e below (T416.setTop (mkF m 25 #[iv p0, iv p1, iv p2, iv p3, iv p4, iv p5, iv (2 : Int32), rv b407, .unset, .unset, .unset, .unset, .unset] [])) _
      refine XS.iload X416.here hx rfl (hb hby at_25) rfl ?_
      show Steps p.tables e below (T416.setTop (mkF m 27 #[iv p0, iv p1, iv p2, iv p3, iv p4, iv p5, iv (2 : Int32), rv b407, .unset, .unset, .unset, .unset, .unset] [(.int (2 : Int32))])) _
      refine XS.iconst X416.here hx rfl (hb hby at_27) ?_
      show Steps p.tables e below (T416.setTop (mkF m 28 #[iv p0, iv p1, iv p2, iv p3, iv p4, iv p5, iv (2 : Int32), rv b407, .unset, .unset, .unset, .unset, .unset] [(.int (2 : Int32)), (.int (2 : Int32))])) _
      refine XS.icmpNo X416.here hx rfl (hb hby at_28) rfl (XT.ii_lt_f (by decide)) ?_
      show Steps p.tables e below (T416.setTop (mkF m 31 #[iv p0, iv p1, iv p2, iv p3, iv p4, iv p5, iv (2 : Int32), rv b407, .unset, .unset, .unset, .unset, .unset] [])) _
      refine XS.aload X416.here hx rfl (hb hby at_31) rfl rfl ?_
      show Steps p.tables e below (T416.setTop (mkF m 33 #[iv p0, iv p1, iv p2, iv p3, iv p4, iv p5, iv (2 : Int32), rv b407, .unset, .unset, .unset, .unset, .unset] [(.ref b407)])) _
      refine XS.iloadN X416.here hx rfl (hb hby at_33) rfl ?_
      exact kt
    obtain ⟨cq419, kq419, q419a, q419b, q419c⟩ := isOf hZ e416 J416_0
    obtain ⟨_, _, ⟨T419, L419, k419, n419⟩, -, X419, ⟨Lc419, hQ419, l419, y419, z419⟩, st419⟩ := X416.virtualBack hx (y := (⟨"org/reachwatch/IntBlocks", "add", "(I)V"⟩ : MethodName)) (z := (⟨"org/reachwatch/IntBlocks", "add", "(I)V"⟩ : MethodName)) hown (mvT hZ (W 14 rfl)) (mvT hZ (W 15 rfl)) (notFace_of_selects (args := #[]) (mvT hZ (W 17 rfl))) (mvT hZ (W 17 rfl)) (mvT hZ (W 16 rfl)) (by decide) (backOf (W := 0) (rm_add3_1 l Z a0 hw [] b407 p1 k51_413 b51_413 b221_416 p0 k221_416 h416 n0 O416 g_b407 g_b221_416 J416_0 J416_2 J416_3 J416_4 J416_5 J416_6 (fun q => ne_b407_b51_413 q.symm) (fun q => ne_b407_b221_416 q.symm) (fun q => ne_b51_413_b221_416 q.symm)) hZ (W 18 rfl) (W 3 rfl) (by decide) (by decide)) q419a q419c (g := (mkF m 34 #[iv p0, iv p1, iv p2, iv p3, iv p4, iv p5, iv (2 : Int32), rv b407, .unset, .unset, .unset, .unset, .unset] [(.int p1), (.ref b407)])) rfl (by rw [hml]; rfl) (Steps.refl _) (argsL := [(.int p1)]) (rest := []) (lenOf pd_6 rfl) rfl (by show 2 * 0 + _ ≤ _; exact Nat.le_of_eq rfl) (hb hby at_34) (fun _ _ => ⟨rfl, e416, (by decide : 3 + 0 ≤ _), (by decide : 19 + 0 ≤ _)⟩)
    dsimp only [Pt.U, Pt.locs, Pt.cells, Pt.slots] at X419 l419 y419 z419 st419 hQ419
    replace l419 := l419.symm
    replace y419 : 3 = k419 := y419.symm
    replace z419 : 19 = n419 := z419.symm
    subst l419 y419 z419
    obtain ⟨rfl, M419, Kc419, O419, J419_0, J419_1, J419_2, J419_3, J419_4⟩ := hQ419
    obtain ⟨h419, e419⟩ : ∃ z, T419.heap = z := ⟨_, rfl⟩
    rw [e419] at Kc419 O419 J419_0 J419_1 J419_2 J419_3 J419_4
    have N419 := Fr.app N416 M419
    have K419 : Keep h0 h419 [] := K416.trans Kc419 (own_all2 (Or.inr sz_b407) (Or.inr sz_b221_416))
    have pre569 : ∀ t, Steps p.tables e below (T419.setTop (mkF m 37 #[iv p0, iv p1, iv p2, iv p3, iv p4, iv p5, iv (2 : Int32), rv b407, .unset, .unset, .unset, .unset, .unset] [])) t → Steps p.tables e below (s₁.setTop (entryFrame m #[(.int p0), (.int p1), (.int p2), (.int p3), (.int p4), (.int p5)] maxLocals)) t := fun t kt => pre418 _ (st419.trans kt)
    have F570 := J416_1.keep Kc419
    have F571 := J416_4.keep Kc419 (own_nm2 (fun q => ne_b407_b51_413 q.symm) ne_b51_413_b221_416)
    have pre572 : ∀ t, Steps p.tables e below (T419.setTop (mkF m 57 #[iv p0, iv p1, iv p2, iv p3, iv p4, iv p5, iv (2 : Int32), rv b407, .unset, .unset, .unset, .unset, .unset] [(.int ((p4 &&& (2147483647 : Int32)) - ((p4 &&& (2147483647 : Int32)) / (2 : Int32)) * (2 : Int32)))])) t → Steps p.tables e below (s₁.setTop (entryFrame m #[(.int p0), (.int p1), (.int p2), (.int p3), (.int p4), (.int p5)] maxLocals)) t := fun t kt => by
      refine pre569 _ ?_
      show Steps p.tables e below (T419.setTop (mkF m 37 #[iv p0, iv p1, iv p2, iv p3, iv p4, iv p5, iv (2 : Int32), rv b407, .unset, .unset, .unset, .unset, .unset] [])) _
      refine XS.iload X419.here hx rfl (hb hby at_37) rfl ?_
      show Steps p.tables e below (T419.setTop (mkF m 39 #[iv p0, iv p1, iv p2, iv p3, iv p4, iv p5, iv (2 : Int32), rv b407, .unset, .unset, .unset, .unset, .unset] [(.int (2 : Int32))])) _
      refine XS.iconst X419.here hx rfl (hb hby at_39) ?_
      show Steps p.tables e below (T419.setTop (mkF m 40 #[iv p0, iv p1, iv p2, iv p3, iv p4, iv p5, iv (2 : Int32), rv b407, .unset, .unset, .unset, .unset, .unset] [(.int (3 : Int32)), (.int (2 : Int32))])) _
      refine XS.icmpYes X419.here hx rfl (pc0 := 40) (pc' := 49) rfl (hb hby at_40) rfl (XT.ii_lt_t (by decide)) (by decide) (by decide) ?_
      show Steps p.tables e below (T419.setTop (mkF m 49 #[iv p0, iv p1, iv p2, iv p3, iv p4, iv p5, iv (2 : Int32), rv b407, .unset, .unset, .unset, .unset, .unset] [])) _
      refine XS.iload X419.here hx rfl (hb hby at_49) rfl ?_
      show Steps p.tables e below (T419.setTop (mkF m 51 #[iv p0, iv p1, iv p2, iv p3, iv p4, iv p5, iv (2 : Int32), rv b407, .unset, .unset, .unset, .unset, .unset] [(.int p4)])) _
      refine X419.ldcInt hx hown (mvT hZ (W 0 rfl)) (g := (mkF m 51 #[iv p0, iv p1, iv p2, iv p3, iv p4, iv p5, iv (2 : Int32), rv b407, .unset, .unset, .unset, .unset, .unset] [(.int p4)])) rfl (hb hby at_51) _ ?_
      show Steps p.tables e below (T419.setTop (mkF m 53 #[iv p0, iv p1, iv p2, iv p3, iv p4, iv p5, iv (2 : Int32), rv b407, .unset, .unset, .unset, .unset, .unset] [(.int (2147483647 : Int32)), (.int p4)])) _
      refine XS.iand X419.here hx rfl (hb hby at_53) rfl ?_
      show Steps p.tables e below (T419.setTop (mkF m 54 #[iv p0, iv p1, iv p2, iv p3, iv p4, iv p5, iv (2 : Int32), rv b407, .unset, .unset, .unset, .unset, .unset] [(.int (p4 &&& (2147483647 : Int32)))])) _
      refine XS.iload X419.here hx rfl (hb hby at_54) rfl ?_
      show Steps p.tables e below (T419.setTop (mkF m 56 #[iv p0, iv p1, iv p2, iv p3, iv p4, iv p5, iv (2 : Int32), rv b407, .unset, .unset, .unset, .unset, .unset] [(.int (2 : Int32)), (.int (p4 &&& (2147483647 : Int32)))])) _
      refine XS.irem X419.here hx rfl (hb hby at_56) rfl (by decide) ?_
      exact kt
    rcases own_rem2 p4 with hv573 | hv573
    · rw [hv573] at pre572
      have pre574 : ∀ t, Steps p.tables e below (T419.setTop (mkF m 65 #[iv p0, iv p1, iv p2, iv p3, iv p4, iv p5, iv (2 : Int32), rv b407, iv (0 : Int32), .unset, .unset, .unset, .unset] [(.int p5), (.int (0 : Int32)), (.ref b407)])) t → Steps p.tables e below (s₁.setTop (entryFrame m #[(.int p0), (.int p1), (.int p2), (.int p3), (.int p4), (.int p5)] maxLocals)) t := fun t kt => by
        refine pre572 _ ?_
        show Steps p.tables e below (T419.setTop (mkF m 57 #[iv p0, iv p1, iv p2, iv p3, iv p4, iv p5, iv (2 : Int32), rv b407, .unset, .unset, .unset, .unset, .unset] [(.int (0 : Int32))])) _
        refine XS.istore X419.here hx rfl (hb hby at_57) rfl (l' := #[iv p0, iv p1, iv p2, iv p3, iv p4, iv p5, iv (2 : Int32), rv b407, iv (0 : Int32), .unset, .unset, .unset, .unset]) rfl ?_
        show Steps p.tables e below (T419.setTop (mkF m 59 #[iv p0, iv p1, iv p2, iv p3, iv p4, iv p5, iv (2 : Int32), rv b407, iv (0 : Int32), .unset, .unset, .unset, .unset] [])) _
        refine XS.aload X419.here hx rfl (hb hby at_59) rfl rfl ?_
        show Steps p.tables e below (T419.setTop (mkF m 61 #[iv p0, iv p1, iv p2, iv p3, iv p4, iv p5, iv (2 : Int32), rv b407, iv (0 : Int32), .unset, .unset, .unset, .unset] [(.ref b407)])) _
        refine XS.iload X419.here hx rfl (hb hby at_61) rfl ?_
        show Steps p.tables e below (T419.setTop (mkF m 63 #[iv p0, iv p1, iv p2, iv p3, iv p4, iv p5, iv (2 : Int32), rv b407, iv (0 : Int32), .unset, .unset, .unset, .unset] [(.int (0 : Int32)), (.ref b407)])) _
        refine XS.iload X419.here hx rfl (hb hby at_63) rfl ?_
        exact kt
      obtain ⟨cq575, kq575, q575a, q575b, q575c⟩ := isOf hZ e419 J419_0
      obtain ⟨_, _, ⟨T575, L575, k575, n575⟩, -, X575, ⟨Lc575, hQ575, l575, y575, z575⟩, st575⟩ := X419.virtualBack hx (y := (⟨"org/reachwatch/IntBlocks", "set", "(II)V"⟩ : MethodName)) (z := (⟨"org/reachwatch/IntBlocks", "set", "(II)V"⟩ : MethodName)) hown (mvT hZ (W 24 rfl)) (mvT hZ (W 25 rfl)) (notFace_of_selects (args := #[]) (mvT hZ (W 27 rfl))) (mvT hZ (W 27 rfl)) (mvT hZ (W 26 rfl)) (by decide) (backOf (W := 0) (rm_set4_1 l Z a0 hw [] b407 p5 k51_413 b51_413 b221_416 p0 p1 k221_416 h419 n0 O419 g_b221_416 F571 J419_1 J419_2 J419_3 J419_4 (fun q => ne_b407_b221_416 q.symm) (fun q => ne_b51_413_b221_416 q.symm)) hZ (W 28 rfl) (W 3 rfl) (by decide) (by decide)) q575a q575c (g := (mkF m 65 #[iv p0, iv p1, iv p2, iv p3, iv p4, iv p5, iv (2 : Int32), rv b407, iv (0 : Int32), .unset, .unset, .unset, .unset] [(.int p5), (.int (0 : Int32)), (.ref b407)])) rfl (by rw [hml]; rfl) (Steps.refl _) (argsL := [(.int (0 : Int32)), (.int p5)]) (rest := []) (lenOf pd_14 rfl) rfl (by show 2 * 0 + _ ≤ _; exact Nat.le_of_eq rfl) (hb hby at_65) (fun _ _ => ⟨rfl, e419, (by decide : 3 + 0 ≤ _), (by decide : 19 + 0 ≤ _)⟩)
      dsimp only [Pt.U, Pt.locs, Pt.cells, Pt.slots] at X575 l575 y575 z575 st575 hQ575
      replace l575 := l575.symm
      replace y575 : 3 = k575 := y575.symm
      replace z575 : 19 = n575 := z575.symm
      subst l575 y575 z575
      obtain ⟨rfl, M575, Kc575, O575, J575_0, J575_1⟩ := hQ575
      obtain ⟨h575, e575⟩ : ∃ z, T575.heap = z := ⟨_, rfl⟩
      rw [e575] at Kc575 O575 J575_0 J575_1
      have N575 := Fr.app N419 M575
      have K575 : Keep h0 h575 [] := K419.trans Kc575 (own_all1 (Or.inr sz_b221_416))
      have pre647 : ∀ t, Steps p.tables e below (T575.setTop (mkF m 68 #[iv p0, iv p1, iv p2, iv p3, iv p4, iv p5, iv (2 : Int32), rv b407, iv (0 : Int32), .unset, .unset, .unset, .unset] [])) t → Steps p.tables e below (s₁.setTop (entryFrame m #[(.int p0), (.int p1), (.int p2), (.int p3), (.int p4), (.int p5)] maxLocals)) t := fun t kt => pre574 _ (st575.trans kt)
      have F648 := F570.keep Kc575
      have F649 := F571.keep Kc575 (own_nm1 ne_b51_413_b221_416)
      have F650 := J419_0.keep Kc575
      have F651 := J419_1.keep Kc575 (own_nm1 ne_b407_b221_416)
      have F652 := J419_4.keep Kc575 (own_nm1 ne_b407_b221_416)
      have pre653 : ∀ t, Steps p.tables e below (T575.setTop (mkF m 111 #[iv p0, iv p1, iv p2, iv p3, iv p4, iv p5, iv (2 : Int32), rv b407, iv (0 : Int32), iv p5, iv p1, iv p2, .unset] [(.ref b407)])) t → Steps p.tables e below (s₁.setTop (entryFrame m #[(.int p0), (.int p1), (.int p2), (.int p3), (.int p4), (.int p5)] maxLocals)) t := fun t kt => by
        refine pre647 _ ?_
        show Steps p.tables e below (T575.setTop (mkF m 68 #[iv p0, iv p1, iv p2, iv p3, iv p4, iv p5, iv (2 : Int32), rv b407, iv (0 : Int32), .unset, .unset, .unset, .unset] [])) _
        refine XS.iload X575.here hx rfl (hb hby at_68) rfl ?_
        show Steps p.tables e below (T575.setTop (mkF m 70 #[iv p0, iv p1, iv p2, iv p3, iv p4, iv p5, iv (2 : Int32), rv b407, iv (0 : Int32), .unset, .unset, .unset, .unset] [(.int (0 : Int32))])) _
        refine XS.ifNo X575.here hx rfl (hb hby at_70) rfl (XT.i0_ne_f (by decide)) ?_
        show Steps p.tables e below (T575.setTop (mkF m 73 #[iv p0, iv p1, iv p2, iv p3, iv p4, iv p5, iv (2 : Int32), rv b407, iv (0 : Int32), .unset, .unset, .unset, .unset] [])) _
        refine XS.iload X575.here hx rfl (hb hby at_73) rfl ?_
        show Steps p.tables e below (T575.setTop (mkF m 75 #[iv p0, iv p1, iv p2, iv p3, iv p4, iv p5, iv (2 : Int32), rv b407, iv (0 : Int32), .unset, .unset, .unset, .unset] [(.int p5)])) _
        refine XS.goto X575.here hx rfl (pc0 := 75) (pc' := 79) rfl (hb hby at_75) (by decide) (by decide) ?_
        show Steps p.tables e below (T575.setTop (mkF m 79 #[iv p0, iv p1, iv p2, iv p3, iv p4, iv p5, iv (2 : Int32), rv b407, iv (0 : Int32), .unset, .unset, .unset, .unset] [(.int p5)])) _
        refine XS.istore X575.here hx rfl (hb hby at_79) rfl (l' := #[iv p0, iv p1, iv p2, iv p3, iv p4, iv p5, iv (2 : Int32), rv b407, iv (0 : Int32), iv p5, .unset, .unset, .unset]) rfl ?_
        show Steps p.tables e below (T575.setTop (mkF m 81 #[iv p0, iv p1, iv p2, iv p3, iv p4, iv p5, iv (2 : Int32), rv b407, iv (0 : Int32), iv p5, .unset, .unset, .unset] [])) _
        refine XS.iload X575.here hx rfl (hb hby at_81) rfl ?_
        show Steps p.tables e below (T575.setTop (mkF m 83 #[iv p0, iv p1, iv p2, iv p3, iv p4, iv p5, iv (2 : Int32), rv b407, iv (0 : Int32), iv p5, .unset, .unset, .unset] [(.int (0 : Int32))])) _
        refine XS.iconst X575.here hx rfl (hb hby at_83) ?_
        show Steps p.tables e below (T575.setTop (mkF m 84 #[iv p0, iv p1, iv p2, iv p3, iv p4, iv p5, iv (2 : Int32), rv b407, iv (0 : Int32), iv p5, .unset, .unset, .unset] [(.int (1 : Int32)), (.int (0 : Int32))])) _
        refine XS.icmpYes X575.here hx rfl (pc0 := 84) (pc' := 92) rfl (hb hby at_84) rfl (XT.ii_ne_t (by decide)) (by decide) (by decide) ?_
        show Steps p.tables e below (T575.setTop (mkF m 92 #[iv p0, iv p1, iv p2, iv p3, iv p4, iv p5, iv (2 : Int32), rv b407, iv (0 : Int32), iv p5, .unset, .unset, .unset] [])) _
        refine XS.iloadN X575.here hx rfl (hb hby at_92) rfl ?_
        show Steps p.tables e below (T575.setTop (mkF m 93 #[iv p0, iv p1, iv p2, iv p3, iv p4, iv p5, iv (2 : Int32), rv b407, iv (0 : Int32), iv p5, .unset, .unset, .unset] [(.int p1)])) _
        refine XS.istore X575.here hx rfl (hb hby at_93) rfl (l' := #[iv p0, iv p1, iv p2, iv p3, iv p4, iv p5, iv (2 : Int32), rv b407, iv (0 : Int32), iv p5, iv p1, .unset, .unset]) rfl ?_
        show Steps p.tables e below (T575.setTop (mkF m 95 #[iv p0, iv p1, iv p2, iv p3, iv p4, iv p5, iv (2 : Int32), rv b407, iv (0 : Int32), iv p5, iv p1, .unset, .unset] [])) _
        refine XS.iload X575.here hx rfl (hb hby at_95) rfl ?_
        show Steps p.tables e below (T575.setTop (mkF m 97 #[iv p0, iv p1, iv p2, iv p3, iv p4, iv p5, iv (2 : Int32), rv b407, iv (0 : Int32), iv p5, iv p1, .unset, .unset] [(.int (0 : Int32))])) _
        refine XS.iconst X575.here hx rfl (hb hby at_97) ?_
        show Steps p.tables e below (T575.setTop (mkF m 98 #[iv p0, iv p1, iv p2, iv p3, iv p4, iv p5, iv (2 : Int32), rv b407, iv (0 : Int32), iv p5, iv p1, .unset, .unset] [(.int (2 : Int32)), (.int (0 : Int32))])) _
        refine XS.icmpYes X575.here hx rfl (pc0 := 98) (pc' := 106) rfl (hb hby at_98) rfl (XT.ii_ne_t (by decide)) (by decide) (by decide) ?_
        show Steps p.tables e below (T575.setTop (mkF m 106 #[iv p0, iv p1, iv p2, iv p3, iv p4, iv p5, iv (2 : Int32), rv b407, iv (0 : Int32), iv p5, iv p1, .unset, .unset] [])) _
        refine XS.iloadN X575.here hx rfl (hb hby at_106) rfl ?_
        show Steps p.tables e below (T575.setTop (mkF m 107 #[iv p0, iv p1, iv p2, iv p3, iv p4, iv p5, iv (2 : Int32), rv b407, iv (0 : Int32), iv p5, iv p1, .unset, .unset] [(.int p2)])) _
        refine XS.istore X575.here hx rfl (hb hby at_107) rfl (l' := #[iv p0, iv p1, iv p2, iv p3, iv p4, iv p5, iv (2 : Int32), rv b407, iv (0 : Int32), iv p5, iv p1, iv p2, .unset]) rfl ?_
        show Steps p.tables e below (T575.setTop (mkF m 109 #[iv p0, iv p1, iv p2, iv p3, iv p4, iv p5, iv (2 : Int32), rv b407, iv (0 : Int32), iv p5, iv p1, iv p2, .unset] [])) _
        refine XS.aload X575.here hx rfl (hb hby at_109) rfl rfl ?_
        exact kt
      obtain ⟨cq654, kq654, q654a, q654b, q654c⟩ := isOf hZ e575 F650
      obtain ⟨_, _, ⟨T654, L654, k654, n654⟩, -, X654, ⟨Lc654, hQ654, l654, y654, z654⟩, st654⟩ := X575.virtualBack hx (y := (⟨"org/reachwatch/IntBlocks", "size", "()I"⟩ : MethodName)) (z := (⟨"org/reachwatch/IntBlocks", "size", "()I"⟩ : MethodName)) hown (mvT hZ (W 37 rfl)) (mvT hZ (W 38 rfl)) (notFace_of_selects (args := #[]) (mvT hZ (W 40 rfl))) (mvT hZ (W 40 rfl)) (mvT hZ (W 39 rfl)) (by decide) (backOf (W := 0) (rm_size7_1 l Z a0 hw [] b407 h575 n0 O575 F652) hZ (W 41 rfl) (W 3 rfl) (by decide) (by decide)) q654a q654c (g := (mkF m 111 #[iv p0, iv p1, iv p2, iv p3, iv p4, iv p5, iv (2 : Int32), rv b407, iv (0 : Int32), iv p5, iv p1, iv p2, .unset] [(.ref b407)])) rfl (by rw [hml]; rfl) (Steps.refl _) (argsL := []) (rest := []) (lenOf pd_16 rfl) rfl (by show 2 * 0 + _ ≤ _; exact Nat.le_of_eq rfl) (hb hby at_111) (fun _ _ => ⟨rfl, e575, (by decide : 3 + 0 ≤ _), (by decide : 19 + 0 ≤ _)⟩)
      dsimp only [Pt.U, Pt.locs, Pt.cells, Pt.slots] at X654 l654 y654 z654 st654 hQ654
      replace l654 := l654.symm
      replace y654 : 3 = k654 := y654.symm
      replace z654 : 19 = n654 := z654.symm
      subst l654 y654 z654
      obtain ⟨rfl, M654, e654⟩ := hQ654
      have N654 := Fr.app N575 M654
      have pre664 : ∀ t, Steps p.tables e below (T654.setTop (mkF m 114 #[iv p0, iv p1, iv p2, iv p3, iv p4, iv p5, iv (2 : Int32), rv b407, iv (0 : Int32), iv p5, iv p1, iv p2, .unset] [(.int (2 : Int32))])) t → Steps p.tables e below (s₁.setTop (entryFrame m #[(.int p0), (.int p1), (.int p2), (.int p3), (.int p4), (.int p5)] maxLocals)) t := fun t kt => pre653 _ (st654.trans kt)
      have pre665 : ∀ t, Steps p.tables e below (T654.setTop (mkF m 122 #[iv p0, iv p1, iv p2, iv p3, iv p4, iv p5, iv (2 : Int32), rv b407, iv (0 : Int32), iv p5, iv p1, iv p2, .unset] [(.int (0 : Int32)), (.ref b407)])) t → Steps p.tables e below (s₁.setTop (entryFrame m #[(.int p0), (.int p1), (.int p2), (.int p3), (.int p4), (.int p5)] maxLocals)) t := fun t kt => by
        refine pre664 _ ?_
        show Steps p.tables e below (T654.setTop (mkF m 114 #[iv p0, iv p1, iv p2, iv p3, iv p4, iv p5, iv (2 : Int32), rv b407, iv (0 : Int32), iv p5, iv p1, iv p2, .unset] [(.int (2 : Int32))])) _
        refine XS.iload X654.here hx rfl (hb hby at_114) rfl ?_
        show Steps p.tables e below (T654.setTop (mkF m 116 #[iv p0, iv p1, iv p2, iv p3, iv p4, iv p5, iv (2 : Int32), rv b407, iv (0 : Int32), iv p5, iv p1, iv p2, .unset] [(.int (2 : Int32)), (.int (2 : Int32))])) _
        refine XS.icmpNo X654.here hx rfl (hb hby at_116) rfl (XT.ii_ne_f (by decide)) ?_
        show Steps p.tables e below (T654.setTop (mkF m 119 #[iv p0, iv p1, iv p2, iv p3, iv p4, iv p5, iv (2 : Int32), rv b407, iv (0 : Int32), iv p5, iv p1, iv p2, .unset] [])) _
        refine XS.aload X654.here hx rfl (hb hby at_119) rfl rfl ?_
        show Steps p.tables e below (T654.setTop (mkF m 121 #[iv p0, iv p1, iv p2, iv p3, iv p4, iv p5, iv (2 : Int32), rv b407, iv (0 : Int32), iv p5, iv p1, iv p2, .unset] [(.ref b407)])) _
        refine XS.iconst X654.here hx rfl (hb hby at_121) ?_
        exact kt
      obtain ⟨cq666, kq666, q666a, q666b, q666c⟩ := isOf hZ e654 F650
      obtain ⟨_, _, ⟨T666, L666, k666, n666⟩, -, X666, ⟨Lc666, hQ666, l666, y666, z666⟩, st666⟩ := X654.virtualBack hx (y := (⟨"org/reachwatch/IntBlocks", "get", "(I)I"⟩ : MethodName)) (z := (⟨"org/reachwatch/IntBlocks", "get", "(I)I"⟩ : MethodName)) hown (mvT hZ (W 42 rfl)) (mvT hZ (W 43 rfl)) (notFace_of_selects (args := #[]) (mvT hZ (W 45 rfl))) (mvT hZ (W 45 rfl)) (mvT hZ (W 44 rfl)) (by decide) (backOf (W := 0) (rm_get8_1 l Z a0 hw [] b407 k51_413 b51_413 b221_416 p5 p1 k221_416 h575 n0 O575 F649 F651 F652 J575_1) hZ (W 46 rfl) (W 3 rfl) (by decide) (by decide)) q666a q666c (g := (mkF m 122 #[iv p0, iv p1, iv p2, iv p3, iv p4, iv p5, iv (2 : Int32), rv b407, iv (0 : Int32), iv p5, iv p1, iv p2, .unset] [(.int (0 : Int32)), (.ref b407)])) rfl (by rw [hml]; rfl) (Steps.refl _) (argsL := [(.int (0 : Int32))]) (rest := []) (lenOf pd_18 rfl) rfl (by show 2 * 0 + _ ≤ _; exact Nat.le_of_eq rfl) (hb hby at_122) (fun _ _ => ⟨rfl, e654, (by decide : 3 + 0 ≤ _), (by decide : 19 + 0 ≤ _)⟩)
      dsimp only [Pt.U, Pt.locs, Pt.cells, Pt.slots] at X666 l666 y666 z666 st666 hQ666
      replace l666 := l666.symm
      replace y666 : 3 = k666 := y666.symm
      replace z666 : 19 = n666 := z666.symm
      subst l666 y666 z666
      obtain ⟨rfl, M666, e666⟩ := hQ666
      have N666 := Fr.app N654 M666
      have pre706 : ∀ t, Steps p.tables e below (T666.setTop (mkF m 125 #[iv p0, iv p1, iv p2, iv p3, iv p4, iv p5, iv (2 : Int32), rv b407, iv (0 : Int32), iv p5, iv p1, iv p2, .unset] [(.int p5)])) t → Steps p.tables e below (s₁.setTop (entryFrame m #[(.int p0), (.int p1), (.int p2), (.int p3), (.int p4), (.int p5)] maxLocals)) t := fun t kt => pre665 _ (st666.trans kt)
      have pre707 : ∀ t, Steps p.tables e below (T666.setTop (mkF m 151 #[iv p0, iv p1, iv p2, iv p3, iv p4, iv p5, iv (2 : Int32), rv b407, iv (0 : Int32), iv p5, iv p1, iv p2, iv (1 : Int32)] [(.int (1 : Int32)), (.ref b407)])) t → Steps p.tables e below (s₁.setTop (entryFrame m #[(.int p0), (.int p1), (.int p2), (.int p3), (.int p4), (.int p5)] maxLocals)) t := fun t kt => by
        refine pre706 _ ?_
        show Steps p.tables e below (T666.setTop (mkF m 125 #[iv p0, iv p1, iv p2, iv p3, iv p4, iv p5, iv (2 : Int32), rv b407, iv (0 : Int32), iv p5, iv p1, iv p2, .unset] [(.int p5)])) _
        refine XS.iload X666.here hx rfl (hb hby at_125) rfl ?_
        show Steps p.tables e below (T666.setTop (mkF m 127 #[iv p0, iv p1, iv p2, iv p3, iv p4, iv p5, iv (2 : Int32), rv b407, iv (0 : Int32), iv p5, iv p1, iv p2, .unset] [(.int p5), (.int p5)])) _
        refine XS.icmpNo X666.here hx rfl (hb hby at_127) rfl (XT.ii_ne_f rfl) ?_
        show Steps p.tables e below (T666.setTop (mkF m 130 #[iv p0, iv p1, iv p2, iv p3, iv p4, iv p5, iv (2 : Int32), rv b407, iv (0 : Int32), iv p5, iv p1, iv p2, .unset] [])) _
        refine XS.iconst X666.here hx rfl (hb hby at_130) ?_
        show Steps p.tables e below (T666.setTop (mkF m 131 #[iv p0, iv p1, iv p2, iv p3, iv p4, iv p5, iv (2 : Int32), rv b407, iv (0 : Int32), iv p5, iv p1, iv p2, .unset] [(.int (1 : Int32))])) _
        refine XS.goto X666.here hx rfl (pc0 := 131) (pc' := 135) rfl (hb hby at_131) (by decide) (by decide) ?_
        show Steps p.tables e below (T666.setTop (mkF m 135 #[iv p0, iv p1, iv p2, iv p3, iv p4, iv p5, iv (2 : Int32), rv b407, iv (0 : Int32), iv p5, iv p1, iv p2, .unset] [(.int (1 : Int32))])) _
        refine XS.istore X666.here hx rfl (hb hby at_135) rfl (l' := #[iv p0, iv p1, iv p2, iv p3, iv p4, iv p5, iv (2 : Int32), rv b407, iv (0 : Int32), iv p5, iv p1, iv p2, iv (1 : Int32)]) rfl ?_
        show Steps p.tables e below (T666.setTop (mkF m 137 #[iv p0, iv p1, iv p2, iv p3, iv p4, iv p5, iv (2 : Int32), rv b407, iv (0 : Int32), iv p5, iv p1, iv p2, iv (1 : Int32)] [])) _
        refine XS.iload X666.here hx rfl (hb hby at_137) rfl ?_
        show Steps p.tables e below (T666.setTop (mkF m 139 #[iv p0, iv p1, iv p2, iv p3, iv p4, iv p5, iv (2 : Int32), rv b407, iv (0 : Int32), iv p5, iv p1, iv p2, iv (1 : Int32)] [(.int (2 : Int32))])) _
        refine XS.iconst X666.here hx rfl (hb hby at_139) ?_
        show Steps p.tables e below (T666.setTop (mkF m 140 #[iv p0, iv p1, iv p2, iv p3, iv p4, iv p5, iv (2 : Int32), rv b407, iv (0 : Int32), iv p5, iv p1, iv p2, iv (1 : Int32)] [(.int (2 : Int32)), (.int (2 : Int32))])) _
        refine XS.icmpNo X666.here hx rfl (hb hby at_140) rfl (XT.ii_lt_f (by decide)) ?_
        show Steps p.tables e below (T666.setTop (mkF m 143 #[iv p0, iv p1, iv p2, iv p3, iv p4, iv p5, iv (2 : Int32), rv b407, iv (0 : Int32), iv p5, iv p1, iv p2, iv (1 : Int32)] [])) _
        refine XS.iload X666.here hx rfl (hb hby at_143) rfl ?_
        show Steps p.tables e below (T666.setTop (mkF m 145 #[iv p0, iv p1, iv p2, iv p3, iv p4, iv p5, iv (2 : Int32), rv b407, iv (0 : Int32), iv p5, iv p1, iv p2, iv (1 : Int32)] [(.int (1 : Int32))])) _
        refine XS.ifNo X666.here hx rfl (hb hby at_145) rfl (XT.i0_eq_f (by decide)) ?_
        show Steps p.tables e below (T666.setTop (mkF m 148 #[iv p0, iv p1, iv p2, iv p3, iv p4, iv p5, iv (2 : Int32), rv b407, iv (0 : Int32), iv p5, iv p1, iv p2, iv (1 : Int32)] [])) _
        refine XS.aload X666.here hx rfl (hb hby at_148) rfl rfl ?_
        show Steps p.tables e below (T666.setTop (mkF m 150 #[iv p0, iv p1, iv p2, iv p3, iv p4, iv p5, iv (2 : Int32), rv b407, iv (0 : Int32), iv p5, iv p1, iv p2, iv (1 : Int32)] [(.ref b407)])) _
        refine XS.iconst X666.here hx rfl (hb hby at_150) ?_
        exact kt
      obtain ⟨cq708, kq708, q708a, q708b, q708c⟩ := isOf hZ e666 F650
      obtain ⟨_, _, ⟨T708, L708, k708, n708⟩, -, X708, ⟨Lc708, hQ708, l708, y708, z708⟩, st708⟩ := X666.virtualBack hx (y := (⟨"org/reachwatch/IntBlocks", "get", "(I)I"⟩ : MethodName)) (z := (⟨"org/reachwatch/IntBlocks", "get", "(I)I"⟩ : MethodName)) hown (mvT hZ (W 42 rfl)) (mvT hZ (W 43 rfl)) (notFace_of_selects (args := #[]) (mvT hZ (W 45 rfl))) (mvT hZ (W 45 rfl)) (mvT hZ (W 44 rfl)) (by decide) (backOf (W := 0) (rm_get8_2 l Z a0 hw [] b407 k51_413 b51_413 b221_416 p5 p1 k221_416 h575 n0 O575 F649 F651 F652 J575_1) hZ (W 46 rfl) (W 3 rfl) (by decide) (by decide)) q708a q708c (g := (mkF m 151 #[iv p0, iv p1, iv p2, iv p3, iv p4, iv p5, iv (2 : Int32), rv b407, iv (0 : Int32), iv p5, iv p1, iv p2, iv (1 : Int32)] [(.int (1 : Int32)), (.ref b407)])) rfl (by rw [hml]; rfl) (Steps.refl _) (argsL := [(.int (1 : Int32))]) (rest := []) (lenOf pd_18 rfl) rfl (by show 2 * 0 + _ ≤ _; exact Nat.le_of_eq rfl) (hb hby at_151) (fun _ _ => ⟨rfl, e666, (by decide : 3 + 0 ≤ _), (by decide : 19 + 0 ≤ _)⟩)
      dsimp only [Pt.U, Pt.locs, Pt.cells, Pt.slots] at X708 l708 y708 z708 st708 hQ708
      replace l708 := l708.symm
      replace y708 : 3 = k708 := y708.symm
      replace z708 : 19 = n708 := z708.symm
      subst l708 y708 z708
      obtain ⟨rfl, M708, e708⟩ := hQ708
      have N708 := Fr.app N666 M708
      have pre760 : ∀ t, Steps p.tables e below (T708.setTop (mkF m 154 #[iv p0, iv p1, iv p2, iv p3, iv p4, iv p5, iv (2 : Int32), rv b407, iv (0 : Int32), iv p5, iv p1, iv p2, iv (1 : Int32)] [(.int p1)])) t → Steps p.tables e below (s₁.setTop (entryFrame m #[(.int p0), (.int p1), (.int p2), (.int p3), (.int p4), (.int p5)] maxLocals)) t := fun t kt => pre707 _ (st708.trans kt)
      have pre761 : ∀ t, Steps p.tables e below (T708.setTop (mkF m 197 #[iv p0, iv p1, iv p2, iv p3, iv p4, iv p5, iv (2 : Int32), rv b407, iv (0 : Int32), iv p5, iv p1, iv p2, iv (1 : Int32)] [(.int (1 : Int32))])) t → Steps p.tables e below (s₁.setTop (entryFrame m #[(.int p0), (.int p1), (.int p2), (.int p3), (.int p4), (.int p5)] maxLocals)) t := fun t kt => by
        refine pre760 _ ?_
        show Steps p.tables e below (T708.setTop (mkF m 154 #[iv p0, iv p1, iv p2, iv p3, iv p4, iv p5, iv (2 : Int32), rv b407, iv (0 : Int32), iv p5, iv p1, iv p2, iv (1 : Int32)] [(.int p1)])) _
        refine XS.iload X708.here hx rfl (hb hby at_154) rfl ?_
        show Steps p.tables e below (T708.setTop (mkF m 156 #[iv p0, iv p1, iv p2, iv p3, iv p4, iv p5, iv (2 : Int32), rv b407, iv (0 : Int32), iv p5, iv p1, iv p2, iv (1 : Int32)] [(.int p1), (.int p1)])) _
        refine XS.icmpNo X708.here hx rfl (hb hby at_156) rfl (XT.ii_ne_f rfl) ?_
        show Steps p.tables e below (T708.setTop (mkF m 159 #[iv p0, iv p1, iv p2, iv p3, iv p4, iv p5, iv (2 : Int32), rv b407, iv (0 : Int32), iv p5, iv p1, iv p2, iv (1 : Int32)] [])) _
        refine XS.iconst X708.here hx rfl (hb hby at_159) ?_
        show Steps p.tables e below (T708.setTop (mkF m 160 #[iv p0, iv p1, iv p2, iv p3, iv p4, iv p5, iv (2 : Int32), rv b407, iv (0 : Int32), iv p5, iv p1, iv p2, iv (1 : Int32)] [(.int (1 : Int32))])) _
        refine XS.goto X708.here hx rfl (pc0 := 160) (pc' := 164) rfl (hb hby at_160) (by decide) (by decide) ?_
        show Steps p.tables e below (T708.setTop (mkF m 164 #[iv p0, iv p1, iv p2, iv p3, iv p4, iv p5, iv (2 : Int32), rv b407, iv (0 : Int32), iv p5, iv p1, iv p2, iv (1 : Int32)] [(.int (1 : Int32))])) _
        refine XS.istore X708.here hx rfl (hb hby at_164) rfl (l' := #[iv p0, iv p1, iv p2, iv p3, iv p4, iv p5, iv (2 : Int32), rv b407, iv (0 : Int32), iv p5, iv p1, iv p2, iv (1 : Int32)]) rfl ?_
        show Steps p.tables e below (T708.setTop (mkF m 166 #[iv p0, iv p1, iv p2, iv p3, iv p4, iv p5, iv (2 : Int32), rv b407, iv (0 : Int32), iv p5, iv p1, iv p2, iv (1 : Int32)] [])) _
        refine XS.iload X708.here hx rfl (hb hby at_166) rfl ?_
        show Steps p.tables e below (T708.setTop (mkF m 168 #[iv p0, iv p1, iv p2, iv p3, iv p4, iv p5, iv (2 : Int32), rv b407, iv (0 : Int32), iv p5, iv p1, iv p2, iv (1 : Int32)] [(.int (2 : Int32))])) _
        refine XS.iconst X708.here hx rfl (hb hby at_168) ?_
        show Steps p.tables e below (T708.setTop (mkF m 169 #[iv p0, iv p1, iv p2, iv p3, iv p4, iv p5, iv (2 : Int32), rv b407, iv (0 : Int32), iv p5, iv p1, iv p2, iv (1 : Int32)] [(.int (3 : Int32)), (.int (2 : Int32))])) _
        refine XS.icmpYes X708.here hx rfl (pc0 := 169) (pc' := 195) rfl (hb hby at_169) rfl (XT.ii_lt_t (by decide)) (by decide) (by decide) ?_
        show Steps p.tables e below (T708.setTop (mkF m 195 #[iv p0, iv p1, iv p2, iv p3, iv p4, iv p5, iv (2 : Int32), rv b407, iv (0 : Int32), iv p5, iv p1, iv p2, iv (1 : Int32)] [])) _
        refine XS.iload X708.here hx rfl (hb hby at_195) rfl ?_
        exact kt
      obtain ⟨fs, hr, hrun, hended, hW, hsame⟩ := X708.leave (v := some (.int (1 : Int32))) (fun h => by rw [Bd.returns] at h; cases h)
      refine ⟨_, _, pre761 _ (retN X708 hx (t := .boolean) Bd.returns (by simp) (hb hby at_197) hr), hrun, hended, _, _, rfl, ?_, ⟨_, rfl⟩, hW, hsame.mono (by decide) (by decide)⟩
      show Q_law Z p0 p1 p2 p3 p4 p5 h0 n0 _ T708.heap _
      rw [e708]
      exact ⟨rfl, N708⟩
    · rw [hv573] at pre572
      have pre762 : ∀ t, Steps p.tables e below (T419.setTop (mkF m 65 #[iv p0, iv p1, iv p2, iv p3, iv p4, iv p5, iv (2 : Int32), rv b407, iv (1 : Int32), .unset, .unset, .unset, .unset] [(.int p5), (.int (1 : Int32)), (.ref b407)])) t → Steps p.tables e below (s₁.setTop (entryFrame m #[(.int p0), (.int p1), (.int p2), (.int p3), (.int p4), (.int p5)] maxLocals)) t := fun t kt => by
        refine pre572 _ ?_
        show Steps p.tables e below (T419.setTop (mkF m 57 #[iv p0, iv p1, iv p2, iv p3, iv p4, iv p5, iv (2 : Int32), rv b407, .unset, .unset, .unset, .unset, .unset] [(.int (1 : Int32))])) _
        refine XS.istore X419.here hx rfl (hb hby at_57) rfl (l' := #[iv p0, iv p1, iv p2, iv p3, iv p4, iv p5, iv (2 : Int32), rv b407, iv (1 : Int32), .unset, .unset, .unset, .unset]) rfl ?_
        show Steps p.tables e below (T419.setTop (mkF m 59 #[iv p0, iv p1, iv p2, iv p3, iv p4, iv p5, iv (2 : Int32), rv b407, iv (1 : Int32), .unset, .unset, .unset, .unset] [])) _
        refine XS.aload X419.here hx rfl (hb hby at_59) rfl rfl ?_
        show Steps p.tables e below (T419.setTop (mkF m 61 #[iv p0, iv p1, iv p2, iv p3, iv p4, iv p5, iv (2 : Int32), rv b407, iv (1 : Int32), .unset, .unset, .unset, .unset] [(.ref b407)])) _
        refine XS.iload X419.here hx rfl (hb hby at_61) rfl ?_
        show Steps p.tables e below (T419.setTop (mkF m 63 #[iv p0, iv p1, iv p2, iv p3, iv p4, iv p5, iv (2 : Int32), rv b407, iv (1 : Int32), .unset, .unset, .unset, .unset] [(.int (1 : Int32)), (.ref b407)])) _
        refine XS.iload X419.here hx rfl (hb hby at_63) rfl ?_
        exact kt
      obtain ⟨cq763, kq763, q763a, q763b, q763c⟩ := isOf hZ e419 J419_0
      obtain ⟨_, _, ⟨T763, L763, k763, n763⟩, -, X763, ⟨Lc763, hQ763, l763, y763, z763⟩, st763⟩ := X419.virtualBack hx (y := (⟨"org/reachwatch/IntBlocks", "set", "(II)V"⟩ : MethodName)) (z := (⟨"org/reachwatch/IntBlocks", "set", "(II)V"⟩ : MethodName)) hown (mvT hZ (W 24 rfl)) (mvT hZ (W 25 rfl)) (notFace_of_selects (args := #[]) (mvT hZ (W 27 rfl))) (mvT hZ (W 27 rfl)) (mvT hZ (W 26 rfl)) (by decide) (backOf (W := 0) (rm_set4_2 l Z a0 hw [] b407 p5 k51_413 b51_413 b221_416 p0 p1 k221_416 h419 n0 O419 g_b221_416 F571 J419_1 J419_2 J419_3 J419_4 (fun q => ne_b407_b221_416 q.symm) (fun q => ne_b51_413_b221_416 q.symm)) hZ (W 28 rfl) (W 3 rfl) (by decide) (by decide)) q763a q763c (g := (mkF m 65 #[iv p0, iv p1, iv p2, iv p3, iv p4, iv p5, iv (2 : Int32), rv b407, iv (1 : Int32), .unset, .unset, .unset, .unset] [(.int p5), (.int (1 : Int32)), (.ref b407)])) rfl (by rw [hml]; rfl) (Steps.refl _) (argsL := [(.int (1 : Int32)), (.int p5)]) (rest := []) (lenOf pd_14 rfl) rfl (by show 2 * 0 + _ ≤ _; exact Nat.le_of_eq rfl) (hb hby at_65) (fun _ _ => ⟨rfl, e419, (by decide : 3 + 0 ≤ _), (by decide : 19 + 0 ≤ _)⟩)
      dsimp only [Pt.U, Pt.locs, Pt.cells, Pt.slots] at X763 l763 y763 z763 st763 hQ763
      replace l763 := l763.symm
      replace y763 : 3 = k763 := y763.symm
      replace z763 : 19 = n763 := z763.symm
      subst l763 y763 z763
      obtain ⟨rfl, M763, Kc763, O763, J763_0, J763_1⟩ := hQ763
      obtain ⟨h763, e763⟩ : ∃ z, T763.heap = z := ⟨_, rfl⟩
      rw [e763] at Kc763 O763 J763_0 J763_1
      have N763 := Fr.app N419 M763
      have K763 : Keep h0 h763 [] := K419.trans Kc763 (own_all1 (Or.inr sz_b221_416))
      have pre823 : ∀ t, Steps p.tables e below (T763.setTop (mkF m 68 #[iv p0, iv p1, iv p2, iv p3, iv p4, iv p5, iv (2 : Int32), rv b407, iv (1 : Int32), .unset, .unset, .unset, .unset] [])) t → Steps p.tables e below (s₁.setTop (entryFrame m #[(.int p0), (.int p1), (.int p2), (.int p3), (.int p4), (.int p5)] maxLocals)) t := fun t kt => pre762 _ (st763.trans kt)
      have F824 := F570.keep Kc763
      have F825 := F571.keep Kc763 (own_nm1 ne_b51_413_b221_416)
      have F826 := J419_0.keep Kc763
      have F827 := J419_1.keep Kc763 (own_nm1 ne_b407_b221_416)
      have F828 := J419_4.keep Kc763 (own_nm1 ne_b407_b221_416)
      have pre829 : ∀ t, Steps p.tables e below (T763.setTop (mkF m 111 #[iv p0, iv p1, iv p2, iv p3, iv p4, iv p5, iv (2 : Int32), rv b407, iv (1 : Int32), iv p0, iv p5, iv p2, .unset] [(.ref b407)])) t → Steps p.tables e below (s₁.setTop (entryFrame m #[(.int p0), (.int p1), (.int p2), (.int p3), (.int p4), (.int p5)] maxLocals)) t := fun t kt => by
        refine pre823 _ ?_
        show Steps p.tables e below (T763.setTop (mkF m 68 #[iv p0, iv p1, iv p2, iv p3, iv p4, iv p5, iv (2 : Int32), rv b407, iv (1 : Int32), .unset, .unset, .unset, .unset] [])) _
        refine XS.iload X763.here hx rfl (hb hby at_68) rfl ?_
        show Steps p.tables e below (T763.setTop (mkF m 70 #[iv p0, iv p1, iv p2, iv p3, iv p4, iv p5, iv (2 : Int32), rv b407, iv (1 : Int32), .unset, .unset, .unset, .unset] [(.int (1 : Int32))])) _
        refine XS.ifYes X763.here hx rfl (pc0 := 70) (pc' := 78) rfl (hb hby at_70) rfl (XT.i0_ne_t (by decide)) (by decide) (by decide) ?_
        show Steps p.tables e below (T763.setTop (mkF m 78 #[iv p0, iv p1, iv p2, iv p3, iv p4, iv p5, iv (2 : Int32), rv b407, iv (1 : Int32), .unset, .unset, .unset, .unset] [])) _
        refine XS.iloadN X763.here hx rfl (hb hby at_78) rfl ?_
        show Steps p.tables e below (T763.setTop (mkF m 79 #[iv p0, iv p1, iv p2, iv p3, iv p4, iv p5, iv (2 : Int32), rv b407, iv (1 : Int32), .unset, .unset, .unset, .unset] [(.int p0)])) _
        refine XS.istore X763.here hx rfl (hb hby at_79) rfl (l' := #[iv p0, iv p1, iv p2, iv p3, iv p4, iv p5, iv (2 : Int32), rv b407, iv (1 : Int32), iv p0, .unset, .unset, .unset]) rfl ?_
        show Steps p.tables e below (T763.setTop (mkF m 81 #[iv p0, iv p1, iv p2, iv p3, iv p4, iv p5, iv (2 : Int32), rv b407, iv (1 : Int32), iv p0, .unset, .unset, .unset] [])) _
        refine XS.iload X763.here hx rfl (hb hby at_81) rfl ?_
        show Steps p.tables e below (T763.setTop (mkF m 83 #[iv p0, iv p1, iv p2, iv p3, iv p4, iv p5, iv (2 : Int32), rv b407, iv (1 : Int32), iv p0, .unset, .unset, .unset] [(.int (1 : Int32))])) _
        refine XS.iconst X763.here hx rfl (hb hby at_83) ?_
        show Steps p.tables e below (T763.setTop (mkF m 84 #[iv p0, iv p1, iv p2, iv p3, iv p4, iv p5, iv (2 : Int32), rv b407, iv (1 : Int32), iv p0, .unset, .unset, .unset] [(.int (1 : Int32)), (.int (1 : Int32))])) _
        refine XS.icmpNo X763.here hx rfl (hb hby at_84) rfl (XT.ii_ne_f (by decide)) ?_
        show Steps p.tables e below (T763.setTop (mkF m 87 #[iv p0, iv p1, iv p2, iv p3, iv p4, iv p5, iv (2 : Int32), rv b407, iv (1 : Int32), iv p0, .unset, .unset, .unset] [])) _
        refine XS.iload X763.here hx rfl (hb hby at_87) rfl ?_
        show Steps p.tables e below (T763.setTop (mkF m 89 #[iv p0, iv p1, iv p2, iv p3, iv p4, iv p5, iv (2 : Int32), rv b407, iv (1 : Int32), iv p0, .unset, .unset, .unset] [(.int p5)])) _
        refine XS.goto X763.here hx rfl (pc0 := 89) (pc' := 93) rfl (hb hby at_89) (by decide) (by decide) ?_
        show Steps p.tables e below (T763.setTop (mkF m 93 #[iv p0, iv p1, iv p2, iv p3, iv p4, iv p5, iv (2 : Int32), rv b407, iv (1 : Int32), iv p0, .unset, .unset, .unset] [(.int p5)])) _
        refine XS.istore X763.here hx rfl (hb hby at_93) rfl (l' := #[iv p0, iv p1, iv p2, iv p3, iv p4, iv p5, iv (2 : Int32), rv b407, iv (1 : Int32), iv p0, iv p5, .unset, .unset]) rfl ?_
        show Steps p.tables e below (T763.setTop (mkF m 95 #[iv p0, iv p1, iv p2, iv p3, iv p4, iv p5, iv (2 : Int32), rv b407, iv (1 : Int32), iv p0, iv p5, .unset, .unset] [])) _
        refine XS.iload X763.here hx rfl (hb hby at_95) rfl ?_
        show Steps p.tables e below (T763.setTop (mkF m 97 #[iv p0, iv p1, iv p2, iv p3, iv p4, iv p5, iv (2 : Int32), rv b407, iv (1 : Int32), iv p0, iv p5, .unset, .unset] [(.int (1 : Int32))])) _
        refine XS.iconst X763.here hx rfl (hb hby at_97) ?_
        show Steps p.tables e below (T763.setTop (mkF m 98 #[iv p0, iv p1, iv p2, iv p3, iv p4, iv p5, iv (2 : Int32), rv b407, iv (1 : Int32), iv p0, iv p5, .unset, .unset] [(.int (2 : Int32)), (.int (1 : Int32))])) _
        refine XS.icmpYes X763.here hx rfl (pc0 := 98) (pc' := 106) rfl (hb hby at_98) rfl (XT.ii_ne_t (by decide)) (by decide) (by decide) ?_
        show Steps p.tables e below (T763.setTop (mkF m 106 #[iv p0, iv p1, iv p2, iv p3, iv p4, iv p5, iv (2 : Int32), rv b407, iv (1 : Int32), iv p0, iv p5, .unset, .unset] [])) _
        refine XS.iloadN X763.here hx rfl (hb hby at_106) rfl ?_
        show Steps p.tables e below (T763.setTop (mkF m 107 #[iv p0, iv p1, iv p2, iv p3, iv p4, iv p5, iv (2 : Int32), rv b407, iv (1 : Int32), iv p0, iv p5, .unset, .unset] [(.int p2)])) _
        refine XS.istore X763.here hx rfl (hb hby at_107) rfl (l' := #[iv p0, iv p1, iv p2, iv p3, iv p4, iv p5, iv (2 : Int32), rv b407, iv (1 : Int32), iv p0, iv p5, iv p2, .unset]) rfl ?_
        show Steps p.tables e below (T763.setTop (mkF m 109 #[iv p0, iv p1, iv p2, iv p3, iv p4, iv p5, iv (2 : Int32), rv b407, iv (1 : Int32), iv p0, iv p5, iv p2, .unset] [])) _
        refine XS.aload X763.here hx rfl (hb hby at_109) rfl rfl ?_
        exact kt
      obtain ⟨cq830, kq830, q830a, q830b, q830c⟩ := isOf hZ e763 F826
      obtain ⟨_, _, ⟨T830, L830, k830, n830⟩, -, X830, ⟨Lc830, hQ830, l830, y830, z830⟩, st830⟩ := X763.virtualBack hx (y := (⟨"org/reachwatch/IntBlocks", "size", "()I"⟩ : MethodName)) (z := (⟨"org/reachwatch/IntBlocks", "size", "()I"⟩ : MethodName)) hown (mvT hZ (W 37 rfl)) (mvT hZ (W 38 rfl)) (notFace_of_selects (args := #[]) (mvT hZ (W 40 rfl))) (mvT hZ (W 40 rfl)) (mvT hZ (W 39 rfl)) (by decide) (backOf (W := 0) (rm_size7_1 l Z a0 hw [] b407 h763 n0 O763 F828) hZ (W 41 rfl) (W 3 rfl) (by decide) (by decide)) q830a q830c (g := (mkF m 111 #[iv p0, iv p1, iv p2, iv p3, iv p4, iv p5, iv (2 : Int32), rv b407, iv (1 : Int32), iv p0, iv p5, iv p2, .unset] [(.ref b407)])) rfl (by rw [hml]; rfl) (Steps.refl _) (argsL := []) (rest := []) (lenOf pd_16 rfl) rfl (by show 2 * 0 + _ ≤ _; exact Nat.le_of_eq rfl) (hb hby at_111) (fun _ _ => ⟨rfl, e763, (by decide : 3 + 0 ≤ _), (by decide : 19 + 0 ≤ _)⟩)
      dsimp only [Pt.U, Pt.locs, Pt.cells, Pt.slots] at X830 l830 y830 z830 st830 hQ830
      replace l830 := l830.symm
      replace y830 : 3 = k830 := y830.symm
      replace z830 : 19 = n830 := z830.symm
      subst l830 y830 z830
      obtain ⟨rfl, M830, e830⟩ := hQ830
      have N830 := Fr.app N763 M830
      have pre831 : ∀ t, Steps p.tables e below (T830.setTop (mkF m 114 #[iv p0, iv p1, iv p2, iv p3, iv p4, iv p5, iv (2 : Int32), rv b407, iv (1 : Int32), iv p0, iv p5, iv p2, .unset] [(.int (2 : Int32))])) t → Steps p.tables e below (s₁.setTop (entryFrame m #[(.int p0), (.int p1), (.int p2), (.int p3), (.int p4), (.int p5)] maxLocals)) t := fun t kt => pre829 _ (st830.trans kt)
      have pre832 : ∀ t, Steps p.tables e below (T830.setTop (mkF m 122 #[iv p0, iv p1, iv p2, iv p3, iv p4, iv p5, iv (2 : Int32), rv b407, iv (1 : Int32), iv p0, iv p5, iv p2, .unset] [(.int (0 : Int32)), (.ref b407)])) t → Steps p.tables e below (s₁.setTop (entryFrame m #[(.int p0), (.int p1), (.int p2), (.int p3), (.int p4), (.int p5)] maxLocals)) t := fun t kt => by
        refine pre831 _ ?_
        show Steps p.tables e below (T830.setTop (mkF m 114 #[iv p0, iv p1, iv p2, iv p3, iv p4, iv p5, iv (2 : Int32), rv b407, iv (1 : Int32), iv p0, iv p5, iv p2, .unset] [(.int (2 : Int32))])) _
        refine XS.iload X830.here hx rfl (hb hby at_114) rfl ?_
        show Steps p.tables e below (T830.setTop (mkF m 116 #[iv p0, iv p1, iv p2, iv p3, iv p4, iv p5, iv (2 : Int32), rv b407, iv (1 : Int32), iv p0, iv p5, iv p2, .unset] [(.int (2 : Int32)), (.int (2 : Int32))])) _
        refine XS.icmpNo X830.here hx rfl (hb hby at_116) rfl (XT.ii_ne_f (by decide)) ?_
        show Steps p.tables e below (T830.setTop (mkF m 119 #[iv p0, iv p1, iv p2, iv p3, iv p4, iv p5, iv (2 : Int32), rv b407, iv (1 : Int32), iv p0, iv p5, iv p2, .unset] [])) _
        refine XS.aload X830.here hx rfl (hb hby at_119) rfl rfl ?_
        show Steps p.tables e below (T830.setTop (mkF m 121 #[iv p0, iv p1, iv p2, iv p3, iv p4, iv p5, iv (2 : Int32), rv b407, iv (1 : Int32), iv p0, iv p5, iv p2, .unset] [(.ref b407)])) _
        refine XS.iconst X830.here hx rfl (hb hby at_121) ?_
        exact kt
      obtain ⟨cq833, kq833, q833a, q833b, q833c⟩ := isOf hZ e830 F826
      obtain ⟨_, _, ⟨T833, L833, k833, n833⟩, -, X833, ⟨Lc833, hQ833, l833, y833, z833⟩, st833⟩ := X830.virtualBack hx (y := (⟨"org/reachwatch/IntBlocks", "get", "(I)I"⟩ : MethodName)) (z := (⟨"org/reachwatch/IntBlocks", "get", "(I)I"⟩ : MethodName)) hown (mvT hZ (W 42 rfl)) (mvT hZ (W 43 rfl)) (notFace_of_selects (args := #[]) (mvT hZ (W 45 rfl))) (mvT hZ (W 45 rfl)) (mvT hZ (W 44 rfl)) (by decide) (backOf (W := 0) (rm_get8_1 l Z a0 hw [] b407 k51_413 b51_413 b221_416 p0 p5 k221_416 h763 n0 O763 F825 F827 F828 J763_1) hZ (W 46 rfl) (W 3 rfl) (by decide) (by decide)) q833a q833c (g := (mkF m 122 #[iv p0, iv p1, iv p2, iv p3, iv p4, iv p5, iv (2 : Int32), rv b407, iv (1 : Int32), iv p0, iv p5, iv p2, .unset] [(.int (0 : Int32)), (.ref b407)])) rfl (by rw [hml]; rfl) (Steps.refl _) (argsL := [(.int (0 : Int32))]) (rest := []) (lenOf pd_18 rfl) rfl (by show 2 * 0 + _ ≤ _; exact Nat.le_of_eq rfl) (hb hby at_122) (fun _ _ => ⟨rfl, e830, (by decide : 3 + 0 ≤ _), (by decide : 19 + 0 ≤ _)⟩)
      dsimp only [Pt.U, Pt.locs, Pt.cells, Pt.slots] at X833 l833 y833 z833 st833 hQ833
      replace l833 := l833.symm
      replace y833 : 3 = k833 := y833.symm
      replace z833 : 19 = n833 := z833.symm
      subst l833 y833 z833
      obtain ⟨rfl, M833, e833⟩ := hQ833
      have N833 := Fr.app N830 M833
      have pre834 : ∀ t, Steps p.tables e below (T833.setTop (mkF m 125 #[iv p0, iv p1, iv p2, iv p3, iv p4, iv p5, iv (2 : Int32), rv b407, iv (1 : Int32), iv p0, iv p5, iv p2, .unset] [(.int p0)])) t → Steps p.tables e below (s₁.setTop (entryFrame m #[(.int p0), (.int p1), (.int p2), (.int p3), (.int p4), (.int p5)] maxLocals)) t := fun t kt => pre832 _ (st833.trans kt)
      have pre835 : ∀ t, Steps p.tables e below (T833.setTop (mkF m 151 #[iv p0, iv p1, iv p2, iv p3, iv p4, iv p5, iv (2 : Int32), rv b407, iv (1 : Int32), iv p0, iv p5, iv p2, iv (1 : Int32)] [(.int (1 : Int32)), (.ref b407)])) t → Steps p.tables e below (s₁.setTop (entryFrame m #[(.int p0), (.int p1), (.int p2), (.int p3), (.int p4), (.int p5)] maxLocals)) t := fun t kt => by
        refine pre834 _ ?_
        show Steps p.tables e below (T833.setTop (mkF m 125 #[iv p0, iv p1, iv p2, iv p3, iv p4, iv p5, iv (2 : Int32), rv b407, iv (1 : Int32), iv p0, iv p5, iv p2, .unset] [(.int p0)])) _
        refine XS.iload X833.here hx rfl (hb hby at_125) rfl ?_
        show Steps p.tables e below (T833.setTop (mkF m 127 #[iv p0, iv p1, iv p2, iv p3, iv p4, iv p5, iv (2 : Int32), rv b407, iv (1 : Int32), iv p0, iv p5, iv p2, .unset] [(.int p0), (.int p0)])) _
        refine XS.icmpNo X833.here hx rfl (hb hby at_127) rfl (XT.ii_ne_f rfl) ?_
        show Steps p.tables e below (T833.setTop (mkF m 130 #[iv p0, iv p1, iv p2, iv p3, iv p4, iv p5, iv (2 : Int32), rv b407, iv (1 : Int32), iv p0, iv p5, iv p2, .unset] [])) _
        refine XS.iconst X833.here hx rfl (hb hby at_130) ?_
        show Steps p.tables e below (T833.setTop (mkF m 131 #[iv p0, iv p1, iv p2, iv p3, iv p4, iv p5, iv (2 : Int32), rv b407, iv (1 : Int32), iv p0, iv p5, iv p2, .unset] [(.int (1 : Int32))])) _
        refine XS.goto X833.here hx rfl (pc0 := 131) (pc' := 135) rfl (hb hby at_131) (by decide) (by decide) ?_
        show Steps p.tables e below (T833.setTop (mkF m 135 #[iv p0, iv p1, iv p2, iv p3, iv p4, iv p5, iv (2 : Int32), rv b407, iv (1 : Int32), iv p0, iv p5, iv p2, .unset] [(.int (1 : Int32))])) _
        refine XS.istore X833.here hx rfl (hb hby at_135) rfl (l' := #[iv p0, iv p1, iv p2, iv p3, iv p4, iv p5, iv (2 : Int32), rv b407, iv (1 : Int32), iv p0, iv p5, iv p2, iv (1 : Int32)]) rfl ?_
        show Steps p.tables e below (T833.setTop (mkF m 137 #[iv p0, iv p1, iv p2, iv p3, iv p4, iv p5, iv (2 : Int32), rv b407, iv (1 : Int32), iv p0, iv p5, iv p2, iv (1 : Int32)] [])) _
        refine XS.iload X833.here hx rfl (hb hby at_137) rfl ?_
        show Steps p.tables e below (T833.setTop (mkF m 139 #[iv p0, iv p1, iv p2, iv p3, iv p4, iv p5, iv (2 : Int32), rv b407, iv (1 : Int32), iv p0, iv p5, iv p2, iv (1 : Int32)] [(.int (2 : Int32))])) _
        refine XS.iconst X833.here hx rfl (hb hby at_139) ?_
        show Steps p.tables e below (T833.setTop (mkF m 140 #[iv p0, iv p1, iv p2, iv p3, iv p4, iv p5, iv (2 : Int32), rv b407, iv (1 : Int32), iv p0, iv p5, iv p2, iv (1 : Int32)] [(.int (2 : Int32)), (.int (2 : Int32))])) _
        refine XS.icmpNo X833.here hx rfl (hb hby at_140) rfl (XT.ii_lt_f (by decide)) ?_
        show Steps p.tables e below (T833.setTop (mkF m 143 #[iv p0, iv p1, iv p2, iv p3, iv p4, iv p5, iv (2 : Int32), rv b407, iv (1 : Int32), iv p0, iv p5, iv p2, iv (1 : Int32)] [])) _
        refine XS.iload X833.here hx rfl (hb hby at_143) rfl ?_
        show Steps p.tables e below (T833.setTop (mkF m 145 #[iv p0, iv p1, iv p2, iv p3, iv p4, iv p5, iv (2 : Int32), rv b407, iv (1 : Int32), iv p0, iv p5, iv p2, iv (1 : Int32)] [(.int (1 : Int32))])) _
        refine XS.ifNo X833.here hx rfl (hb hby at_145) rfl (XT.i0_eq_f (by decide)) ?_
        show Steps p.tables e below (T833.setTop (mkF m 148 #[iv p0, iv p1, iv p2, iv p3, iv p4, iv p5, iv (2 : Int32), rv b407, iv (1 : Int32), iv p0, iv p5, iv p2, iv (1 : Int32)] [])) _
        refine XS.aload X833.here hx rfl (hb hby at_148) rfl rfl ?_
        show Steps p.tables e below (T833.setTop (mkF m 150 #[iv p0, iv p1, iv p2, iv p3, iv p4, iv p5, iv (2 : Int32), rv b407, iv (1 : Int32), iv p0, iv p5, iv p2, iv (1 : Int32)] [(.ref b407)])) _
        refine XS.iconst X833.here hx rfl (hb hby at_150) ?_
        exact kt
      obtain ⟨cq836, kq836, q836a, q836b, q836c⟩ := isOf hZ e833 F826
      obtain ⟨_, _, ⟨T836, L836, k836, n836⟩, -, X836, ⟨Lc836, hQ836, l836, y836, z836⟩, st836⟩ := X833.virtualBack hx (y := (⟨"org/reachwatch/IntBlocks", "get", "(I)I"⟩ : MethodName)) (z := (⟨"org/reachwatch/IntBlocks", "get", "(I)I"⟩ : MethodName)) hown (mvT hZ (W 42 rfl)) (mvT hZ (W 43 rfl)) (notFace_of_selects (args := #[]) (mvT hZ (W 45 rfl))) (mvT hZ (W 45 rfl)) (mvT hZ (W 44 rfl)) (by decide) (backOf (W := 0) (rm_get8_2 l Z a0 hw [] b407 k51_413 b51_413 b221_416 p0 p5 k221_416 h763 n0 O763 F825 F827 F828 J763_1) hZ (W 46 rfl) (W 3 rfl) (by decide) (by decide)) q836a q836c (g := (mkF m 151 #[iv p0, iv p1, iv p2, iv p3, iv p4, iv p5, iv (2 : Int32), rv b407, iv (1 : Int32), iv p0, iv p5, iv p2, iv (1 : Int32)] [(.int (1 : Int32)), (.ref b407)])) rfl (by rw [hml]; rfl) (Steps.refl _) (argsL := [(.int (1 : Int32))]) (rest := []) (lenOf pd_18 rfl) rfl (by show 2 * 0 + _ ≤ _; exact Nat.le_of_eq rfl) (hb hby at_151) (fun _ _ => ⟨rfl, e833, (by decide : 3 + 0 ≤ _), (by decide : 19 + 0 ≤ _)⟩)
      dsimp only [Pt.U, Pt.locs, Pt.cells, Pt.slots] at X836 l836 y836 z836 st836 hQ836
      replace l836 := l836.symm
      replace y836 : 3 = k836 := y836.symm
      replace z836 : 19 = n836 := z836.symm
      subst l836 y836 z836
      obtain ⟨rfl, M836, e836⟩ := hQ836
      have N836 := Fr.app N833 M836
      have pre837 : ∀ t, Steps p.tables e below (T836.setTop (mkF m 154 #[iv p0, iv p1, iv p2, iv p3, iv p4, iv p5, iv (2 : Int32), rv b407, iv (1 : Int32), iv p0, iv p5, iv p2, iv (1 : Int32)] [(.int p5)])) t → Steps p.tables e below (s₁.setTop (entryFrame m #[(.int p0), (.int p1), (.int p2), (.int p3), (.int p4), (.int p5)] maxLocals)) t := fun t kt => pre835 _ (st836.trans kt)
      have pre838 : ∀ t, Steps p.tables e below (T836.setTop (mkF m 197 #[iv p0, iv p1, iv p2, iv p3, iv p4, iv p5, iv (2 : Int32), rv b407, iv (1 : Int32), iv p0, iv p5, iv p2, iv (1 : Int32)] [(.int (1 : Int32))])) t → Steps p.tables e below (s₁.setTop (entryFrame m #[(.int p0), (.int p1), (.int p2), (.int p3), (.int p4), (.int p5)] maxLocals)) t := fun t kt => by
        refine pre837 _ ?_
        show Steps p.tables e below (T836.setTop (mkF m 154 #[iv p0, iv p1, iv p2, iv p3, iv p4, iv p5, iv (2 : Int32), rv b407, iv (1 : Int32), iv p0, iv p5, iv p2, iv (1 : Int32)] [(.int p5)])) _
        refine XS.iload X836.here hx rfl (hb hby at_154) rfl ?_
        show Steps p.tables e below (T836.setTop (mkF m 156 #[iv p0, iv p1, iv p2, iv p3, iv p4, iv p5, iv (2 : Int32), rv b407, iv (1 : Int32), iv p0, iv p5, iv p2, iv (1 : Int32)] [(.int p5), (.int p5)])) _
        refine XS.icmpNo X836.here hx rfl (hb hby at_156) rfl (XT.ii_ne_f rfl) ?_
        show Steps p.tables e below (T836.setTop (mkF m 159 #[iv p0, iv p1, iv p2, iv p3, iv p4, iv p5, iv (2 : Int32), rv b407, iv (1 : Int32), iv p0, iv p5, iv p2, iv (1 : Int32)] [])) _
        refine XS.iconst X836.here hx rfl (hb hby at_159) ?_
        show Steps p.tables e below (T836.setTop (mkF m 160 #[iv p0, iv p1, iv p2, iv p3, iv p4, iv p5, iv (2 : Int32), rv b407, iv (1 : Int32), iv p0, iv p5, iv p2, iv (1 : Int32)] [(.int (1 : Int32))])) _
        refine XS.goto X836.here hx rfl (pc0 := 160) (pc' := 164) rfl (hb hby at_160) (by decide) (by decide) ?_
        show Steps p.tables e below (T836.setTop (mkF m 164 #[iv p0, iv p1, iv p2, iv p3, iv p4, iv p5, iv (2 : Int32), rv b407, iv (1 : Int32), iv p0, iv p5, iv p2, iv (1 : Int32)] [(.int (1 : Int32))])) _
        refine XS.istore X836.here hx rfl (hb hby at_164) rfl (l' := #[iv p0, iv p1, iv p2, iv p3, iv p4, iv p5, iv (2 : Int32), rv b407, iv (1 : Int32), iv p0, iv p5, iv p2, iv (1 : Int32)]) rfl ?_
        show Steps p.tables e below (T836.setTop (mkF m 166 #[iv p0, iv p1, iv p2, iv p3, iv p4, iv p5, iv (2 : Int32), rv b407, iv (1 : Int32), iv p0, iv p5, iv p2, iv (1 : Int32)] [])) _
        refine XS.iload X836.here hx rfl (hb hby at_166) rfl ?_
        show Steps p.tables e below (T836.setTop (mkF m 168 #[iv p0, iv p1, iv p2, iv p3, iv p4, iv p5, iv (2 : Int32), rv b407, iv (1 : Int32), iv p0, iv p5, iv p2, iv (1 : Int32)] [(.int (2 : Int32))])) _
        refine XS.iconst X836.here hx rfl (hb hby at_168) ?_
        show Steps p.tables e below (T836.setTop (mkF m 169 #[iv p0, iv p1, iv p2, iv p3, iv p4, iv p5, iv (2 : Int32), rv b407, iv (1 : Int32), iv p0, iv p5, iv p2, iv (1 : Int32)] [(.int (3 : Int32)), (.int (2 : Int32))])) _
        refine XS.icmpYes X836.here hx rfl (pc0 := 169) (pc' := 195) rfl (hb hby at_169) rfl (XT.ii_lt_t (by decide)) (by decide) (by decide) ?_
        show Steps p.tables e below (T836.setTop (mkF m 195 #[iv p0, iv p1, iv p2, iv p3, iv p4, iv p5, iv (2 : Int32), rv b407, iv (1 : Int32), iv p0, iv p5, iv p2, iv (1 : Int32)] [])) _
        refine XS.iload X836.here hx rfl (hb hby at_195) rfl ?_
        exact kt
      obtain ⟨fs, hr, hrun, hended, hW, hsame⟩ := X836.leave (v := some (.int (1 : Int32))) (fun h => by rw [Bd.returns] at h; cases h)
      refine ⟨_, _, pre838 _ (retN X836 hx (t := .boolean) Bd.returns (by simp) (hb hby at_197) hr), hrun, hended, _, _, rfl, ?_, ⟨_, rfl⟩, hW, hsame.mono (by decide) (by decide)⟩
      show Q_law Z p0 p1 p2 p3 p4 p5 h0 n0 _ T836.heap _
      rw [e836]
      exact ⟨rfl, N836⟩
  · rw [hv2] at pre1
    have pre839 : ∀ t, Steps p.tables e below (s₁.setTop (mkF m 10 #[iv p0, iv p1, iv p2, iv p3, iv p4, iv p5, iv (3 : Int32), .unset, .unset, .unset, .unset, .unset, .unset] [])) t → Steps p.tables e below (s₁.setTop (entryFrame m #[(.int p0), (.int p1), (.int p2), (.int p3), (.int p4), (.int p5)] maxLocals)) t := fun t kt => by
      refine pre1 _ ?_
      show Steps p.tables e below (s₁.setTop (mkF m 7 #[iv p0, iv p1, iv p2, iv p3, iv p4, iv p5, .unset, .unset, .unset, .unset, .unset, .unset, .unset] [(.int (2 : Int32)), (.int (1 : Int32))])) _
      refine XS.iadd X0.here hx rfl (hb hby at_7) rfl ?_
      show  Steps p.tables e below (s₁.setTop (mkF m 8 #[iv p0, iv p1, iv p2, iv p3, iv p4, iv p5, .unset, .unset, .unset, .unset, .unset, .unset, .unset] [(.int ((1 : Int32) + (2 : Int32)))])) _
      rw [(by decide : (((1 : Int32) + (2 : Int32)) : Int32) = (3 : Int32))]
      show Steps p.tables e below (s₁.setTop (mkF m 8 #[iv p0, iv p1, iv p2, iv p3, iv p4, iv p5, .unset, .unset, .unset, .unset, .unset, .unset, .unset] [(.int (3 : Int32))])) _
      refine XS.istore X0.here hx rfl (hb hby at_8) rfl (l' := #[iv p0, iv p1, iv p2, iv p3, iv p4, iv p5, iv (3 : Int32), .unset, .unset, .unset, .unset, .unset, .unset]) rfl ?_
      exact kt
    obtain ⟨T840, h840, X840, e840, E840, A840, D840, -, st840⟩ := newO X0 hx hZ hown (W 1 rfl) (W 2 rfl) (W 3 rfl) e0 (g := (mkF m 10 #[iv p0, iv p1, iv p2, iv p3, iv p4, iv p5, iv (3 : Int32), .unset, .unset, .unset, .unset, .unset, .unset] [])) rfl (hb hby at_10) (by decide) (by decide)
    obtain ⟨b840, g840⟩ : ∃ z, z = h0.size := ⟨_, rfl⟩
    rw [← g840] at A840 D840 st840
    have pre841 : ∀ t, Steps p.tables e below (T840.setTop (mkF m 13 #[iv p0, iv p1, iv p2, iv p3, iv p4, iv p5, iv (3 : Int32), .unset, .unset, .unset, .unset, .unset, .unset] [(.ref b840)])) t → Steps p.tables e below (s₁.setTop (entryFrame m #[(.int p0), (.int p1), (.int p2), (.int p3), (.int p4), (.int p5)] maxLocals)) t := fun t kt => pre839 _ (st840 _ kt)
    have O840 := O0.ext E840
    have K840 : Keep h0 h840 [] := K0.ext E840
    have g_b840 : n0 ≤ b840 := Nat.le_trans (Nat.le_trans (Nat.le_of_eq O0.1.symm) O0.2.1) (Nat.le_of_eq g840.symm)
    have sz_b840 : h0.size ≤ b840 := Nat.le_trans K0.1 (Nat.le_of_eq g840.symm)
    have F842 : Exa Z h840 b840 "org/reachwatch/IntBlocks" := A840
    have F843 : Fld Z h840 b840 "org/reachwatch/IntBlocks" "blocks" "[[I" .null := D840 (Or.inl (W 13 rfl)) (ty := (.array (.array .int))) (by decide)
    have F844 : Fld Z h840 b840 "org/reachwatch/IntBlocks" "size" "I" (.int (0 : Int32)) := D840 (Or.inl (W 20 rfl)) (ty := .int) (by decide)
    have pre845 : ∀ t, Steps p.tables e below (T840.setTop (mkF m 14 #[iv p0, iv p1, iv p2, iv p3, iv p4, iv p5, iv (3 : Int32), .unset, .unset, .unset, .unset, .unset, .unset] [(.ref b840), (.ref b840)])) t → Steps p.tables e below (s₁.setTop (entryFrame m #[(.int p0), (.int p1), (.int p2), (.int p3), (.int p4), (.int p5)] maxLocals)) t := fun t kt => by
      refine pre841 _ ?_
      show Steps p.tables e below (T840.setTop (mkF m 13 #[iv p0, iv p1, iv p2, iv p3, iv p4, iv p5, iv (3 : Int32), .unset, .unset, .unset, .unset, .unset, .unset] [(.ref b840)])) _
      refine XS.dup X840.here hx rfl (hb hby at_13) rfl rfl ?_
      exact kt
    obtain ⟨_, _, ⟨T846, L846, k846, n846⟩, -, X846, ⟨Lc846, hQ846, l846, y846, z846⟩, st846⟩ := X840.specialBack hx (y := (⟨"org/reachwatch/IntBlocks", "<init>", "()V"⟩ : MethodName)) rfl hown (mvT hZ (W 4 rfl)) (mvT hZ (W 5 rfl)) (mvT hZ (W 6 rfl)) (by decide) (backOf (W := 1) (rm_init1_0 l Z a0 hw [] b840 h840 n0 O840 g_b840 F842 F843 F844) hZ (W 6 rfl) (W 3 rfl) (by decide) (by decide)) (g := (mkF m 14 #[iv p0, iv p1, iv p2, iv p3, iv p4, iv p5, iv (3 : Int32), .unset, .unset, .unset, .unset, .unset, .unset] [(.ref b840), (.ref b840)])) rfl (by rw [hml]; rfl) (Steps.refl _) (a := b840) (argsL := []) (rest := [(.ref b840)]) (lenOf pd_4 rfl) rfl (by show 2 * 0 + _ ≤ _; exact Nat.le_of_eq rfl) (hb hby at_14) (fun _ _ => ⟨rfl, e840, (by decide : 1 + 1 ≤ _), (by decide : 2 + 1 ≤ _)⟩)
    dsimp only [Pt.U, Pt.locs, Pt.cells, Pt.slots] at X846 l846 y846 z846 st846 hQ846
    replace l846 := l846.symm
    replace y846 : 2 = k846 := y846.symm
    replace z846 : 3 = n846 := z846.symm
    subst l846 y846 z846
    obtain ⟨b51_846, k51_846, rfl, M846, Kc846, O846, J846_0, J846_1, J846_2, J846_3, J846_4, J846_5, P846_0⟩ := hQ846
    obtain ⟨h846, e846⟩ : ∃ z, T846.heap = z := ⟨_, rfl⟩
    rw [e846] at Kc846 O846 J846_0 J846_1 J846_2 J846_4 J846_5
    try rw [e846] at P846_0
    have N846 := Fr.app N0 M846
    have K846 : Keep h0 h846 [] := K840.trans Kc846 (own_all1 (Or.inr sz_b840))
    have pre847 : ∀ t, Steps p.tables e below (T846.setTop (mkF m 17 #[iv p0, iv p1, iv p2, iv p3, iv p4, iv p5, iv (3 : Int32), .unset, .unset, .unset, .unset, .unset, .unset] [(.ref b840)])) t → Steps p.tables e below (s₁.setTop (entryFrame m #[(.int p0), (.int p1), (.int p2), (.int p3), (.int p4), (.int p5)] maxLocals)) t := fun t kt => pre845 _ (st846.trans kt)
    have sz_b51_846 : h0.size ≤ b51_846 := Nat.le_trans K840.1 P846_0
    have ne_b840_b51_846 : b840 ≠ b51_846 := Nat.ne_of_lt (Nat.lt_of_lt_of_le F842.lt P846_0)
    have g_b51_846 : n0 ≤ b51_846 := Nat.le_trans (Nat.le_trans (Nat.le_of_eq O0.1.symm) O0.2.1) sz_b51_846
    have pre848 : ∀ t, Steps p.tables e below (T846.setTop (mkF m 22 #[iv p0, iv p1, iv p2, iv p3, iv p4, iv p5, iv (3 : Int32), rv b840, .unset, .unset, .unset, .unset, .unset] [(.int p0), (.ref b840)])) t → Steps p.tables e below (s₁.setTop (entryFrame m #[(.int p0), (.int p1), (.int p2), (.int p3), (.int p4), (.int p5)] maxLocals)) t := fun t kt => by
      refine pre847 _ ?_
      show Steps p.tables e below (T846.setTop (mkF m 17 #[iv p0, iv p1, iv p2, iv p3, iv p4, iv p5, iv (3 : Int32), .unset, .unset, .unset, .unset, .unset, .unset] [(.ref b840)])) _
      refine XS.astore X846.here hx rfl (hb hby at_17) rfl rfl (l' := #[iv p0, iv p1, iv p2, iv p3, iv p4, iv p5, iv (3 : Int32), rv b840, .unset, .unset, .unset, .unset, .unset]) rfl ?_
      show Steps p.tables e below (T846.setTop (mkF m 19 #[iv p0, iv p1, iv p2, iv p3, iv p4, iv p5, iv (3 : Int32), rv b840, .unset, .unset, .unset, .unset, .unset] [])) _
      refine XS.aload X846.here hx rfl (hb hby at_19) rfl rfl ?_
      show Steps p.tables e below (T846.setTop (mkF m 21 #[iv p0, iv p1, iv p2, iv p3, iv p4, iv p5, iv (3 : Int32), rv b840, .unset, .unset, .unset, .unset, .unset] [(.ref b840)])) _
      refine XS.iloadN X846.here hx rfl (hb hby at_21) rfl ?_
      exact kt
    obtain ⟨cq849, kq849, q849a, q849b, q849c⟩ := isOf hZ e846 J846_0
    obtain ⟨_, _, ⟨T849, L849, k849, n849⟩, -, X849, ⟨Lc849, hQ849, l849, y849, z849⟩, st849⟩ := X846.virtualBack hx (y := (⟨"org/reachwatch/IntBlocks", "add", "(I)V"⟩ : MethodName)) (z := (⟨"org/reachwatch/IntBlocks", "add", "(I)V"⟩ : MethodName)) hown (mvT hZ (W 14 rfl)) (mvT hZ (W 15 rfl)) (notFace_of_selects (args := #[]) (mvT hZ (W 17 rfl))) (mvT hZ (W 17 rfl)) (mvT hZ (W 16 rfl)) (by decide) (backOf (W := 0) (rm_add3_0 l Z a0 hw [] b840 p0 b51_846 k51_846 h846 n0 O846 g_b840 g_b51_846 J846_0 J846_1 J846_2 J846_3 J846_4 J846_5 (fun q => ne_b840_b51_846 q.symm)) hZ (W 18 rfl) (W 3 rfl) (by decide) (by decide)) q849a q849c (g := (mkF m 22 #[iv p0, iv p1, iv p2, iv p3, iv p4, iv p5, iv (3 : Int32), rv b840, .unset, .unset, .unset, .unset, .unset] [(.int p0), (.ref b840)])) rfl (by rw [hml]; rfl) (Steps.refl _) (argsL := [(.int p0)]) (rest := []) (lenOf pd_6 rfl) rfl (by show 2 * 0 + _ ≤ _; exact Nat.le_of_eq rfl) (hb hby at_22) (fun _ _ => ⟨rfl, e846, (by decide : 2 + 1 ≤ _), (by decide : 3 + 16 ≤ _)⟩)
    dsimp only [Pt.U, Pt.locs, Pt.cells, Pt.slots] at X849 l849 y849 z849 st849 hQ849
    replace l849 := l849.symm
    replace y849 : 3 = k849 := y849.symm
    replace z849 : 19 = n849 := z849.symm
    subst l849 y849 z849
    obtain ⟨b221_849, k221_849, rfl, M849, Kc849, O849, J849_0, J849_1, J849_2, J849_3, J849_4, J849_5, J849_6, P849_0⟩ := hQ849
    obtain ⟨h849, e849⟩ : ∃ z, T849.heap = z := ⟨_, rfl⟩
    rw [e849] at Kc849 O849 J849_0 J849_1 J849_2 J849_3 J849_4 J849_5 J849_6
    try rw [e849] at P849_0
    have N849 := Fr.app N846 M849
    have K849 : Keep h0 h849 [] := K846.trans Kc849 (own_all2 (Or.inr sz_b840) (Or.inr sz_b51_846))
    have pre850 : ∀ t, Steps p.tables e below (T849.setTop (mkF m 25 #[iv p0, iv p1, iv p2, iv p3, iv p4, iv p5, iv (3 : Int32), rv b840, .unset, .unset, .unset, .unset, .unset] [])) t → Steps p.tables e below (s₁.setTop (entryFrame m #[(.int p0), (.int p1), (.int p2), (.int p3), (.int p4), (.int p5)] maxLocals)) t := fun t kt => pre848 _ (st849.trans kt)
    have sz_b221_849 : h0.size ≤ b221_849 := Nat.le_trans K846.1 P849_0
    have ne_b840_b221_849 : b840 ≠ b221_849 := Nat.ne_of_lt (Nat.lt_of_lt_of_le J846_0.lt P849_0)
    have ne_b51_846_b221_849 : b51_846 ≠ b221_849 := Nat.ne_of_lt (Nat.lt_of_lt_of_le J846_2.lt P849_0)
    have g_b221_849 : n0 ≤ b221_849 := Nat.le_trans (Nat.le_trans (Nat.le_of_eq O0.1.symm) O0.2.1) sz_b221_849
    have pre851 : ∀ t, Steps p.tables e below (T849.setTop (mkF m 34 #[iv p0, iv p1, iv p2, iv p3, iv p4, iv p5, iv (3 : Int32), rv b840, .unset, .unset, .unset, .unset, .unset] [(.int p1), (.ref b840)])) t → Steps p.tables e below (s₁.setTop (entryFrame m #[(.int p0), (.int p1), (.int p2), (.int p3), (.int p4), (.int p5)] maxLocals)) t := fun t kt => by
      refine pre850 _ ?_
      show Steps p.tables e below (T849.setTop (mkF m 25 #[iv p0, iv p1, iv p2, iv p3, iv p4, iv p5, iv (3 : Int32), rv b840, .unset, .unset, .unset, .unset, .unset] [])) _
      refine XS.iload X849.here hx rfl (hb hby at_25) rfl ?_
      show Steps p.tables e below (T849.setTop (mkF m 27 #[iv p0, iv p1, iv p2, iv p3, iv p4, iv p5, iv (3 : Int32), rv b840, .unset, .unset, .unset, .unset, .unset] [(.int (3 : Int32))])) _
      refine XS.iconst X849.here hx rfl (hb hby at_27) ?_
      show Steps p.tables e below (T849.setTop (mkF m 28 #[iv p0, iv p1, iv p2, iv p3, iv p4, iv p5, iv (3 : Int32), rv b840, .unset, .unset, .unset, .unset, .unset] [(.int (2 : Int32)), (.int (3 : Int32))])) _
      refine XS.icmpNo X849.here hx rfl (hb hby at_28) rfl (XT.ii_lt_f (by decide)) ?_
      show Steps p.tables e below (T849.setTop (mkF m 31 #[iv p0, iv p1, iv p2, iv p3, iv p4, iv p5, iv (3 : Int32), rv b840, .unset, .unset, .unset, .unset, .unset] [])) _
      refine XS.aload X849.here hx rfl (hb hby at_31) rfl rfl ?_
      show Steps p.tables e below (T849.setTop (mkF m 33 #[iv p0, iv p1, iv p2, iv p3, iv p4, iv p5, iv (3 : Int32), rv b840, .unset, .unset, .unset, .unset, .unset] [(.ref b840)])) _
      refine XS.iloadN X849.here hx rfl (hb hby at_33) rfl ?_
      exact kt
    obtain ⟨cq852, kq852, q852a, q852b, q852c⟩ := isOf hZ e849 J849_0
    obtain ⟨_, _, ⟨T852, L852, k852, n852⟩, -, X852, ⟨Lc852, hQ852, l852, y852, z852⟩, st852⟩ := X849.virtualBack hx (y := (⟨"org/reachwatch/IntBlocks", "add", "(I)V"⟩ : MethodName)) (z := (⟨"org/reachwatch/IntBlocks", "add", "(I)V"⟩ : MethodName)) hown (mvT hZ (W 14 rfl)) (mvT hZ (W 15 rfl)) (notFace_of_selects (args := #[]) (mvT hZ (W 17 rfl))) (mvT hZ (W 17 rfl)) (mvT hZ (W 16 rfl)) (by decide) (backOf (W := 0) (rm_add3_1 l Z a0 hw [] b840 p1 k51_846 b51_846 b221_849 p0 k221_849 h849 n0 O849 g_b840 g_b221_849 J849_0 J849_2 J849_3 J849_4 J849_5 J849_6 (fun q => ne_b840_b51_846 q.symm) (fun q => ne_b840_b221_849 q.symm) (fun q => ne_b51_846_b221_849 q.symm)) hZ (W 18 rfl) (W 3 rfl) (by decide) (by decide)) q852a q852c (g := (mkF m 34 #[iv p0, iv p1, iv p2, iv p3, iv p4, iv p5, iv (3 : Int32), rv b840, .unset, .unset, .unset, .unset, .unset] [(.int p1), (.ref b840)])) rfl (by rw [hml]; rfl) (Steps.refl _) (argsL := [(.int p1)]) (rest := []) (lenOf pd_6 rfl) rfl (by show 2 * 0 + _ ≤ _; exact Nat.le_of_eq rfl) (hb hby at_34) (fun _ _ => ⟨rfl, e849, (by decide : 3 + 0 ≤ _), (by decide : 19 + 0 ≤ _)⟩)
    dsimp only [Pt.U, Pt.locs, Pt.cells, Pt.slots] at X852 l852 y852 z852 st852 hQ852
    replace l852 := l852.symm
    replace y852 : 3 = k852 := y852.symm
    replace z852 : 19 = n852 := z852.symm
    subst l852 y852 z852
    obtain ⟨rfl, M852, Kc852, O852, J852_0, J852_1, J852_2, J852_3, J852_4⟩ := hQ852
    obtain ⟨h852, e852⟩ : ∃ z, T852.heap = z := ⟨_, rfl⟩
    rw [e852] at Kc852 O852 J852_0 J852_1 J852_2 J852_3 J852_4
    have N852 := Fr.app N849 M852
    have K852 : Keep h0 h852 [] := K849.trans Kc852 (own_all2 (Or.inr sz_b840) (Or.inr sz_b221_849))
    have pre853 : ∀ t, Steps p.tables e below (T852.setTop (mkF m 37 #[iv p0, iv p1, iv p2, iv p3, iv p4, iv p5, iv (3 : Int32), rv b840, .unset, .unset, .unset, .unset, .unset] [])) t → Steps p.tables e below (s₁.setTop (entryFrame m #[(.int p0), (.int p1), (.int p2), (.int p3), (.int p4), (.int p5)] maxLocals)) t := fun t kt => pre851 _ (st852.trans kt)
    have F854 := J849_1.keep Kc852
    have F855 := J849_4.keep Kc852 (own_nm2 (fun q => ne_b840_b51_846 q.symm) ne_b51_846_b221_849)
    have pre856 : ∀ t, Steps p.tables e below (T852.setTop (mkF m 46 #[iv p0, iv p1, iv p2, iv p3, iv p4, iv p5, iv (3 : Int32), rv b840, .unset, .unset, .unset, .unset, .unset] [(.int p2), (.ref b840)])) t → Steps p.tables e below (s₁.setTop (entryFrame m #[(.int p0), (.int p1), (.int p2), (.int p3), (.int p4), (.int p5)] maxLocals)) t := fun t kt => by
      refine pre853 _ ?_
      show Steps p.tables e below (T852.setTop (mkF m 37 #[iv p0, iv p1, iv p2, iv p3, iv p4, iv p5, iv (3 : Int32), rv b840, .unset, .unset, .unset, .unset, .unset] [])) _
      refine XS.iload X852.here hx rfl (hb hby at_37) rfl ?_
      show Steps p.tables e below (T852.setTop (mkF m 39 #[iv p0, iv p1, iv p2, iv p3, iv p4, iv p5, iv (3 : Int32), rv b840, .unset, .unset, .unset, .unset, .unset] [(.int (3 : Int32))])) _
      refine XS.iconst X852.here hx rfl (hb hby at_39) ?_
      show Steps p.tables e below (T852.setTop (mkF m 40 #[iv p0, iv p1, iv p2, iv p3, iv p4, iv p5, iv (3 : Int32), rv b840, .unset, .unset, .unset, .unset, .unset] [(.int (3 : Int32)), (.int (3 : Int32))])) _
      refine XS.icmpNo X852.here hx rfl (hb hby at_40) rfl (XT.ii_lt_f (by decide)) ?_
      show Steps p.tables e below (T852.setTop (mkF m 43 #[iv p0, iv p1, iv p2, iv p3, iv p4, iv p5, iv (3 : Int32), rv b840, .unset, .unset, .unset, .unset, .unset] [])) _
      refine XS.aload X852.here hx rfl (hb hby at_43) rfl rfl ?_
      show Steps p.tables e below (T852.setTop (mkF m 45 #[iv p0, iv p1, iv p2, iv p3, iv p4, iv p5, iv (3 : Int32), rv b840, .unset, .unset, .unset, .unset, .unset] [(.ref b840)])) _
      refine XS.iloadN X852.here hx rfl (hb hby at_45) rfl ?_
      exact kt
    obtain ⟨cq857, kq857, q857a, q857b, q857c⟩ := isOf hZ e852 J852_0
    obtain ⟨_, _, ⟨T857, L857, k857, n857⟩, -, X857, ⟨Lc857, hQ857, l857, y857, z857⟩, st857⟩ := X852.virtualBack hx (y := (⟨"org/reachwatch/IntBlocks", "add", "(I)V"⟩ : MethodName)) (z := (⟨"org/reachwatch/IntBlocks", "add", "(I)V"⟩ : MethodName)) hown (mvT hZ (W 14 rfl)) (mvT hZ (W 15 rfl)) (notFace_of_selects (args := #[]) (mvT hZ (W 17 rfl))) (mvT hZ (W 17 rfl)) (mvT hZ (W 16 rfl)) (by decide) (backOf (W := 0) (rm_add3_2 l Z a0 hw [] b840 p2 k51_846 b51_846 b221_849 p0 p1 k221_849 h852 n0 O852 g_b840 g_b221_849 F855 J852_0 J852_1 J852_2 J852_3 J852_4 (fun q => ne_b840_b51_846 q.symm) (fun q => ne_b840_b221_849 q.symm) (fun q => ne_b51_846_b221_849 q.symm)) hZ (W 18 rfl) (W 3 rfl) (by decide) (by decide)) q857a q857c (g := (mkF m 46 #[iv p0, iv p1, iv p2, iv p3, iv p4, iv p5, iv (3 : Int32), rv b840, .unset, .unset, .unset, .unset, .unset] [(.int p2), (.ref b840)])) rfl (by rw [hml]; rfl) (Steps.refl _) (argsL := [(.int p2)]) (rest := []) (lenOf pd_6 rfl) rfl (by show 2 * 0 + _ ≤ _; exact Nat.le_of_eq rfl) (hb hby at_46) (fun _ _ => ⟨rfl, e852, (by decide : 3 + 0 ≤ _), (by decide : 19 + 0 ≤ _)⟩)
    dsimp only [Pt.U, Pt.locs, Pt.cells, Pt.slots] at X857 l857 y857 z857 st857 hQ857
    replace l857 := l857.symm
    replace y857 : 3 = k857 := y857.symm
    replace z857 : 19 = n857 := z857.symm
    subst l857 y857 z857
    obtain ⟨rfl, M857, Kc857, O857, J857_0, J857_1, J857_2, J857_3, J857_4⟩ := hQ857
    obtain ⟨h857, e857⟩ : ∃ z, T857.heap = z := ⟨_, rfl⟩
    rw [e857] at Kc857 O857 J857_0 J857_1 J857_2 J857_3 J857_4
    have N857 := Fr.app N852 M857
    have K857 : Keep h0 h857 [] := K852.trans Kc857 (own_all2 (Or.inr sz_b840) (Or.inr sz_b221_849))
    have pre1007 : ∀ t, Steps p.tables e below (T857.setTop (mkF m 49 #[iv p0, iv p1, iv p2, iv p3, iv p4, iv p5, iv (3 : Int32), rv b840, .unset, .unset, .unset, .unset, .unset] [])) t → Steps p.tables e below (s₁.setTop (entryFrame m #[(.int p0), (.int p1), (.int p2), (.int p3), (.int p4), (.int p5)] maxLocals)) t := fun t kt => pre856 _ (st857.trans kt)
    have F1008 := F854.keep Kc857
    have F1009 := F855.keep Kc857 (own_nm2 (fun q => ne_b840_b51_846 q.symm) ne_b51_846_b221_849)
    have pre1010 : ∀ t, Steps p.tables e below (T857.setTop (mkF m 57 #[iv p0, iv p1, iv p2, iv p3, iv p4, iv p5, iv (3 : Int32), rv b840, .unset, .unset, .unset, .unset, .unset] [(.int ((p4 &&& (2147483647 : Int32)) - ((p4 &&& (2147483647 : Int32)) / (3 : Int32)) * (3 : Int32)))])) t → Steps p.tables e below (s₁.setTop (entryFrame m #[(.int p0), (.int p1), (.int p2), (.int p3), (.int p4), (.int p5)] maxLocals)) t := fun t kt => by
      refine pre1007 _ ?_
      show Steps p.tables e below (T857.setTop (mkF m 49 #[iv p0, iv p1, iv p2, iv p3, iv p4, iv p5, iv (3 : Int32), rv b840, .unset, .unset, .unset, .unset, .unset] [])) _
      refine XS.iload X857.here hx rfl (hb hby at_49) rfl ?_
      show Steps p.tables e below (T857.setTop (mkF m 51 #[iv p0, iv p1, iv p2, iv p3, iv p4, iv p5, iv (3 : Int32), rv b840, .unset, .unset, .unset, .unset, .unset] [(.int p4)])) _
      refine X857.ldcInt hx hown (mvT hZ (W 0 rfl)) (g := (mkF m 51 #[iv p0, iv p1, iv p2, iv p3, iv p4, iv p5, iv (3 : Int32), rv b840, .unset, .unset, .unset, .unset, .unset] [(.int p4)])) rfl (hb hby at_51) _ ?_
      show Steps p.tables e below (T857.setTop (mkF m 53 #[iv p0, iv p1, iv p2, iv p3, iv p4, iv p5, iv (3 : Int32), rv b840, .unset, .unset, .unset, .unset, .unset] [(.int (2147483647 : Int32)), (.int p4)])) _
      refine XS.iand X857.here hx rfl (hb hby at_53) rfl ?_
      show Steps p.tables e below (T857.setTop (mkF m 54 #[iv p0, iv p1, iv p2, iv p3, iv p4, iv p5, iv (3 : Int32), rv b840, .unset, .unset, .unset, .unset, .unset] [(.int (p4 &&& (2147483647 : Int32)))])) _
      refine XS.iload X857.here hx rfl (hb hby at_54) rfl ?_
      show Steps p.tables e below (T857.setTop (mkF m 56 #[iv p0, iv p1, iv p2, iv p3, iv p4, iv p5, iv (3 : Int32), rv b840, .unset, .unset, .unset, .unset, .unset] [(.int (3 : Int32)), (.int (p4 &&& (2147483647 : Int32)))])) _
      refine XS.irem X857.here hx rfl (hb hby at_56) rfl (by decide) ?_
      exact kt
    rcases own_rem3 p4 with hv1011 | hv1011 | hv1011
    · rw [hv1011] at pre1010
      have pre1012 : ∀ t, Steps p.tables e below (T857.setTop (mkF m 65 #[iv p0, iv p1, iv p2, iv p3, iv p4, iv p5, iv (3 : Int32), rv b840, iv (0 : Int32), .unset, .unset, .unset, .unset] [(.int p5), (.int (0 : Int32)), (.ref b840)])) t → Steps p.tables e below (s₁.setTop (entryFrame m #[(.int p0), (.int p1), (.int p2), (.int p3), (.int p4), (.int p5)] maxLocals)) t := fun t kt => by
        refine pre1010 _ ?_
        show Steps p.tables e below (T857.setTop (mkF m 57 #[iv p0, iv p1, iv p2, iv p3, iv p4, iv p5, iv (3 : Int32), rv b840, .unset, .unset, .unset, .unset, .unset] [(.int (0 : Int32))])) _
        refine XS.istore X857.here hx rfl (hb hby at_57) rfl (l' := #[iv p0, iv p1, iv p2, iv p3, iv p4, iv p5, iv (3 : Int32), rv b840, iv (0 : Int32), .unset, .unset, .unset, .unset]) rfl ?_
        show Steps p.tables e below (T857.setTop (mkF m 59 #[iv p0, iv p1, iv p2, iv p3, iv p4, iv p5, iv (3 : Int32), rv b840, iv (0 : Int32), .unset, .unset, .unset, .unset] [])) _
        refine XS.aload X857.here hx rfl (hb hby at_59) rfl rfl ?_
        show Steps p.tables e below (T857.setTop (mkF m 61 #[iv p0, iv p1, iv p2, iv p3, iv p4, iv p5, iv (3 : Int32), rv b840, iv (0 : Int32), .unset, .unset, .unset, .unset] [(.ref b840)])) _
        refine XS.iload X857.here hx rfl (hb hby at_61) rfl ?_
        show Steps p.tables e below (T857.setTop (mkF m 63 #[iv p0, iv p1, iv p2, iv p3, iv p4, iv p5, iv (3 : Int32), rv b840, iv (0 : Int32), .unset, .unset, .unset, .unset] [(.int (0 : Int32)), (.ref b840)])) _
        refine XS.iload X857.here hx rfl (hb hby at_63) rfl ?_
        exact kt
      obtain ⟨cq1013, kq1013, q1013a, q1013b, q1013c⟩ := isOf hZ e857 J857_0
      obtain ⟨_, _, ⟨T1013, L1013, k1013, n1013⟩, -, X1013, ⟨Lc1013, hQ1013, l1013, y1013, z1013⟩, st1013⟩ := X857.virtualBack hx (y := (⟨"org/reachwatch/IntBlocks", "set", "(II)V"⟩ : MethodName)) (z := (⟨"org/reachwatch/IntBlocks", "set", "(II)V"⟩ : MethodName)) hown (mvT hZ (W 24 rfl)) (mvT hZ (W 25 rfl)) (notFace_of_selects (args := #[]) (mvT hZ (W 27 rfl))) (mvT hZ (W 27 rfl)) (mvT hZ (W 26 rfl)) (by decide) (backOf (W := 0) (rm_set4_3 l Z a0 hw [] b840 p5 k51_846 b51_846 b221_849 p0 p1 p2 k221_849 h857 n0 O857 g_b221_849 F1009 J857_1 J857_2 J857_3 J857_4 (fun q => ne_b840_b221_849 q.symm) (fun q => ne_b51_846_b221_849 q.symm)) hZ (W 28 rfl) (W 3 rfl) (by decide) (by decide)) q1013a q1013c (g := (mkF m 65 #[iv p0, iv p1, iv p2, iv p3, iv p4, iv p5, iv (3 : Int32), rv b840, iv (0 : Int32), .unset, .unset, .unset, .unset] [(.int p5), (.int (0 : Int32)), (.ref b840)])) rfl (by rw [hml]; rfl) (Steps.refl _) (argsL := [(.int (0 : Int32)), (.int p5)]) (rest := []) (lenOf pd_14 rfl) rfl (by show 2 * 0 + _ ≤ _; exact Nat.le_of_eq rfl) (hb hby at_65) (fun _ _ => ⟨rfl, e857, (by decide : 3 + 0 ≤ _), (by decide : 19 + 0 ≤ _)⟩)
      dsimp only [Pt.U, Pt.locs, Pt.cells, Pt.slots] at X1013 l1013 y1013 z1013 st1013 hQ1013
      replace l1013 := l1013.symm
      replace y1013 : 3 = k1013 := y1013.symm
      replace z1013 : 19 = n1013 := z1013.symm
      subst l1013 y1013 z1013
      obtain ⟨rfl, M1013, Kc1013, O1013, J1013_0, J1013_1⟩ := hQ1013
      obtain ⟨h1013, e1013⟩ : ∃ z, T1013.heap = z := ⟨_, rfl⟩
      rw [e1013] at Kc1013 O1013 J1013_0 J1013_1
      have N1013 := Fr.app N857 M1013
      have K1013 : Keep h0 h1013 [] := K857.trans Kc1013 (own_all1 (Or.inr sz_b221_849))
      have pre1085 : ∀ t, Steps p.tables e below (T1013.setTop (mkF m 68 #[iv p0, iv p1, iv p2, iv p3, iv p4, iv p5, iv (3 : Int32), rv b840, iv (0 : Int32), .unset, .unset, .unset, .unset] [])) t → Steps p.tables e below (s₁.setTop (entryFrame m #[(.int p0), (.int p1), (.int p2), (.int p3), (.int p4), (.int p5)] maxLocals)) t := fun t kt => pre1012 _ (st1013.trans kt)
      have F1086 := F1008.keep Kc1013
      have F1087 := F1009.keep Kc1013 (own_nm1 ne_b51_846_b221_849)
      have F1088 := J857_0.keep Kc1013
      have F1089 := J857_1.keep Kc1013 (own_nm1 ne_b840_b221_849)
      have F1090 := J857_4.keep Kc1013 (own_nm1 ne_b840_b221_849)
      have pre1091 : ∀ t, Steps p.tables e below (T1013.setTop (mkF m 111 #[iv p0, iv p1, iv p2, iv p3, iv p4, iv p5, iv (3 : Int32), rv b840, iv (0 : Int32), iv p5, iv p1, iv p2, .unset] [(.ref b840)])) t → Steps p.tables e below (s₁.setTop (entryFrame m #[(.int p0), (.int p1), (.int p2), (.int p3), (.int p4), (.int p5)] maxLocals)) t := fun t kt => by
        refine pre1085 _ ?_
        show Steps p.tables e below (T1013.setTop (mkF m 68 #[iv p0, iv p1, iv p2, iv p3, iv p4, iv p5, iv (3 : Int32), rv b840, iv (0 : Int32), .unset, .unset, .unset, .unset] [])) _
        refine XS.iload X1013.here hx rfl (hb hby at_68) rfl ?_
        show Steps p.tables e below (T1013.setTop (mkF m 70 #[iv p0, iv p1, iv p2, iv p3, iv p4, iv p5, iv (3 : Int32), rv b840, iv (0 : Int32), .unset, .unset, .unset, .unset] [(.int (0 : Int32))])) _
        refine XS.ifNo X1013.here hx rfl (hb hby at_70) rfl (XT.i0_ne_f (by decide)) ?_
        show Steps p.tables e below (T1013.setTop (mkF m 73 #[iv p0, iv p1, iv p2, iv p3, iv p4, iv p5, iv (3 : Int32), rv b840, iv (0 : Int32), .unset, .unset, .unset, .unset] [])) _
        refine XS.iload X1013.here hx rfl (hb hby at_73) rfl ?_
        show Steps p.tables e below (T1013.setTop (mkF m 75 #[iv p0, iv p1, iv p2, iv p3, iv p4, iv p5, iv (3 : Int32), rv b840, iv (0 : Int32), .unset, .unset, .unset, .unset] [(.int p5)])) _
        refine XS.goto X1013.here hx rfl (pc0 := 75) (pc' := 79) rfl (hb hby at_75) (by decide) (by decide) ?_
        show Steps p.tables e below (T1013.setTop (mkF m 79 #[iv p0, iv p1, iv p2, iv p3, iv p4, iv p5, iv (3 : Int32), rv b840, iv (0 : Int32), .unset, .unset, .unset, .unset] [(.int p5)])) _
        refine XS.istore X1013.here hx rfl (hb hby at_79) rfl (l' := #[iv p0, iv p1, iv p2, iv p3, iv p4, iv p5, iv (3 : Int32), rv b840, iv (0 : Int32), iv p5, .unset, .unset, .unset]) rfl ?_
        show Steps p.tables e below (T1013.setTop (mkF m 81 #[iv p0, iv p1, iv p2, iv p3, iv p4, iv p5, iv (3 : Int32), rv b840, iv (0 : Int32), iv p5, .unset, .unset, .unset] [])) _
        refine XS.iload X1013.here hx rfl (hb hby at_81) rfl ?_
        show Steps p.tables e below (T1013.setTop (mkF m 83 #[iv p0, iv p1, iv p2, iv p3, iv p4, iv p5, iv (3 : Int32), rv b840, iv (0 : Int32), iv p5, .unset, .unset, .unset] [(.int (0 : Int32))])) _
        refine XS.iconst X1013.here hx rfl (hb hby at_83) ?_
        show Steps p.tables e below (T1013.setTop (mkF m 84 #[iv p0, iv p1, iv p2, iv p3, iv p4, iv p5, iv (3 : Int32), rv b840, iv (0 : Int32), iv p5, .unset, .unset, .unset] [(.int (1 : Int32)), (.int (0 : Int32))])) _
        refine XS.icmpYes X1013.here hx rfl (pc0 := 84) (pc' := 92) rfl (hb hby at_84) rfl (XT.ii_ne_t (by decide)) (by decide) (by decide) ?_
        show Steps p.tables e below (T1013.setTop (mkF m 92 #[iv p0, iv p1, iv p2, iv p3, iv p4, iv p5, iv (3 : Int32), rv b840, iv (0 : Int32), iv p5, .unset, .unset, .unset] [])) _
        refine XS.iloadN X1013.here hx rfl (hb hby at_92) rfl ?_
        show Steps p.tables e below (T1013.setTop (mkF m 93 #[iv p0, iv p1, iv p2, iv p3, iv p4, iv p5, iv (3 : Int32), rv b840, iv (0 : Int32), iv p5, .unset, .unset, .unset] [(.int p1)])) _
        refine XS.istore X1013.here hx rfl (hb hby at_93) rfl (l' := #[iv p0, iv p1, iv p2, iv p3, iv p4, iv p5, iv (3 : Int32), rv b840, iv (0 : Int32), iv p5, iv p1, .unset, .unset]) rfl ?_
        show Steps p.tables e below (T1013.setTop (mkF m 95 #[iv p0, iv p1, iv p2, iv p3, iv p4, iv p5, iv (3 : Int32), rv b840, iv (0 : Int32), iv p5, iv p1, .unset, .unset] [])) _
        refine XS.iload X1013.here hx rfl (hb hby at_95) rfl ?_
        show Steps p.tables e below (T1013.setTop (mkF m 97 #[iv p0, iv p1, iv p2, iv p3, iv p4, iv p5, iv (3 : Int32), rv b840, iv (0 : Int32), iv p5, iv p1, .unset, .unset] [(.int (0 : Int32))])) _
        refine XS.iconst X1013.here hx rfl (hb hby at_97) ?_
        show Steps p.tables e below (T1013.setTop (mkF m 98 #[iv p0, iv p1, iv p2, iv p3, iv p4, iv p5, iv (3 : Int32), rv b840, iv (0 : Int32), iv p5, iv p1, .unset, .unset] [(.int (2 : Int32)), (.int (0 : Int32))])) _
        refine XS.icmpYes X1013.here hx rfl (pc0 := 98) (pc' := 106) rfl (hb hby at_98) rfl (XT.ii_ne_t (by decide)) (by decide) (by decide) ?_
        show Steps p.tables e below (T1013.setTop (mkF m 106 #[iv p0, iv p1, iv p2, iv p3, iv p4, iv p5, iv (3 : Int32), rv b840, iv (0 : Int32), iv p5, iv p1, .unset, .unset] [])) _
        refine XS.iloadN X1013.here hx rfl (hb hby at_106) rfl ?_
        show Steps p.tables e below (T1013.setTop (mkF m 107 #[iv p0, iv p1, iv p2, iv p3, iv p4, iv p5, iv (3 : Int32), rv b840, iv (0 : Int32), iv p5, iv p1, .unset, .unset] [(.int p2)])) _
        refine XS.istore X1013.here hx rfl (hb hby at_107) rfl (l' := #[iv p0, iv p1, iv p2, iv p3, iv p4, iv p5, iv (3 : Int32), rv b840, iv (0 : Int32), iv p5, iv p1, iv p2, .unset]) rfl ?_
        show Steps p.tables e below (T1013.setTop (mkF m 109 #[iv p0, iv p1, iv p2, iv p3, iv p4, iv p5, iv (3 : Int32), rv b840, iv (0 : Int32), iv p5, iv p1, iv p2, .unset] [])) _
        refine XS.aload X1013.here hx rfl (hb hby at_109) rfl rfl ?_
        exact kt
      obtain ⟨cq1092, kq1092, q1092a, q1092b, q1092c⟩ := isOf hZ e1013 F1088
      obtain ⟨_, _, ⟨T1092, L1092, k1092, n1092⟩, -, X1092, ⟨Lc1092, hQ1092, l1092, y1092, z1092⟩, st1092⟩ := X1013.virtualBack hx (y := (⟨"org/reachwatch/IntBlocks", "size", "()I"⟩ : MethodName)) (z := (⟨"org/reachwatch/IntBlocks", "size", "()I"⟩ : MethodName)) hown (mvT hZ (W 37 rfl)) (mvT hZ (W 38 rfl)) (notFace_of_selects (args := #[]) (mvT hZ (W 40 rfl))) (mvT hZ (W 40 rfl)) (mvT hZ (W 39 rfl)) (by decide) (backOf (W := 0) (rm_size7_2 l Z a0 hw [] b840 h1013 n0 O1013 F1090) hZ (W 41 rfl) (W 3 rfl) (by decide) (by decide)) q1092a q1092c (g := (mkF m 111 #[iv p0, iv p1, iv p2, iv p3, iv p4, iv p5, iv (3 : Int32), rv b840, iv (0 : Int32), iv p5, iv p1, iv p2, .unset] [(.ref b840)])) rfl (by rw [hml]; rfl) (Steps.refl _) (argsL := []) (rest := []) (lenOf pd_16 rfl) rfl (by show 2 * 0 + _ ≤ _; exact Nat.le_of_eq rfl) (hb hby at_111) (fun _ _ => ⟨rfl, e1013, (by decide : 3 + 0 ≤ _), (by decide : 19 + 0 ≤ _)⟩)
      dsimp only [Pt.U, Pt.locs, Pt.cells, Pt.slots] at X1092 l1092 y1092 z1092 st1092 hQ1092
      replace l1092 := l1092.symm
      replace y1092 : 3 = k1092 := y1092.symm
      replace z1092 : 19 = n1092 := z1092.symm
      subst l1092 y1092 z1092
      obtain ⟨rfl, M1092, e1092⟩ := hQ1092
      have N1092 := Fr.app N1013 M1092
      have pre1102 : ∀ t, Steps p.tables e below (T1092.setTop (mkF m 114 #[iv p0, iv p1, iv p2, iv p3, iv p4, iv p5, iv (3 : Int32), rv b840, iv (0 : Int32), iv p5, iv p1, iv p2, .unset] [(.int (3 : Int32))])) t → Steps p.tables e below (s₁.setTop (entryFrame m #[(.int p0), (.int p1), (.int p2), (.int p3), (.int p4), (.int p5)] maxLocals)) t := fun t kt => pre1091 _ (st1092.trans kt)
      have pre1103 : ∀ t, Steps p.tables e below (T1092.setTop (mkF m 122 #[iv p0, iv p1, iv p2, iv p3, iv p4, iv p5, iv (3 : Int32), rv b840, iv (0 : Int32), iv p5, iv p1, iv p2, .unset] [(.int (0 : Int32)), (.ref b840)])) t → Steps p.tables e below (s₁.setTop (entryFrame m #[(.int p0), (.int p1), (.int p2), (.int p3), (.int p4), (.int p5)] maxLocals)) t := fun t kt => by
        refine pre1102 _ ?_
        show Steps p.tables e below (T1092.setTop (mkF m 114 #[iv p0, iv p1, iv p2, iv p3, iv p4, iv p5, iv (3 : Int32), rv b840, iv (0 : Int32), iv p5, iv p1, iv p2, .unset] [(.int (3 : Int32))])) _
        refine XS.iload X1092.here hx rfl (hb hby at_114) rfl ?_
        show Steps p.tables e below (T1092.setTop (mkF m 116 #[iv p0, iv p1, iv p2, iv p3, iv p4, iv p5, iv (3 : Int32), rv b840, iv (0 : Int32), iv p5, iv p1, iv p2, .unset] [(.int (3 : Int32)), (.int (3 : Int32))])) _
        refine XS.icmpNo X1092.here hx rfl (hb hby at_116) rfl (XT.ii_ne_f (by decide)) ?_
        show Steps p.tables e below (T1092.setTop (mkF m 119 #[iv p0, iv p1, iv p2, iv p3, iv p4, iv p5, iv (3 : Int32), rv b840, iv (0 : Int32), iv p5, iv p1, iv p2, .unset] [])) _
        refine XS.aload X1092.here hx rfl (hb hby at_119) rfl rfl ?_
        show Steps p.tables e below (T1092.setTop (mkF m 121 #[iv p0, iv p1, iv p2, iv p3, iv p4, iv p5, iv (3 : Int32), rv b840, iv (0 : Int32), iv p5, iv p1, iv p2, .unset] [(.ref b840)])) _
        refine XS.iconst X1092.here hx rfl (hb hby at_121) ?_
        exact kt
      obtain ⟨cq1104, kq1104, q1104a, q1104b, q1104c⟩ := isOf hZ e1092 F1088
      obtain ⟨_, _, ⟨T1104, L1104, k1104, n1104⟩, -, X1104, ⟨Lc1104, hQ1104, l1104, y1104, z1104⟩, st1104⟩ := X1092.virtualBack hx (y := (⟨"org/reachwatch/IntBlocks", "get", "(I)I"⟩ : MethodName)) (z := (⟨"org/reachwatch/IntBlocks", "get", "(I)I"⟩ : MethodName)) hown (mvT hZ (W 42 rfl)) (mvT hZ (W 43 rfl)) (notFace_of_selects (args := #[]) (mvT hZ (W 45 rfl))) (mvT hZ (W 45 rfl)) (mvT hZ (W 44 rfl)) (by decide) (backOf (W := 0) (rm_get8_3 l Z a0 hw [] b840 k51_846 b51_846 b221_849 p5 p1 p2 k221_849 h1013 n0 O1013 F1087 F1089 F1090 J1013_1) hZ (W 46 rfl) (W 3 rfl) (by decide) (by decide)) q1104a q1104c (g := (mkF m 122 #[iv p0, iv p1, iv p2, iv p3, iv p4, iv p5, iv (3 : Int32), rv b840, iv (0 : Int32), iv p5, iv p1, iv p2, .unset] [(.int (0 : Int32)), (.ref b840)])) rfl (by rw [hml]; rfl) (Steps.refl _) (argsL := [(.int (0 : Int32))]) (rest := []) (lenOf pd_18 rfl) rfl (by show 2 * 0 + _ ≤ _; exact Nat.le_of_eq rfl) (hb hby at_122) (fun _ _ => ⟨rfl, e1092, (by decide : 3 + 0 ≤ _), (by decide : 19 + 0 ≤ _)⟩)
      dsimp only [Pt.U, Pt.locs, Pt.cells, Pt.slots] at X1104 l1104 y1104 z1104 st1104 hQ1104
      replace l1104 := l1104.symm
      replace y1104 : 3 = k1104 := y1104.symm
      replace z1104 : 19 = n1104 := z1104.symm
      subst l1104 y1104 z1104
      obtain ⟨rfl, M1104, e1104⟩ := hQ1104
      have N1104 := Fr.app N1092 M1104
      have pre1144 : ∀ t, Steps p.tables e below (T1104.setTop (mkF m 125 #[iv p0, iv p1, iv p2, iv p3, iv p4, iv p5, iv (3 : Int32), rv b840, iv (0 : Int32), iv p5, iv p1, iv p2, .unset] [(.int p5)])) t → Steps p.tables e below (s₁.setTop (entryFrame m #[(.int p0), (.int p1), (.int p2), (.int p3), (.int p4), (.int p5)] maxLocals)) t := fun t kt => pre1103 _ (st1104.trans kt)
      have pre1145 : ∀ t, Steps p.tables e below (T1104.setTop (mkF m 151 #[iv p0, iv p1, iv p2, iv p3, iv p4, iv p5, iv (3 : Int32), rv b840, iv (0 : Int32), iv p5, iv p1, iv p2, iv (1 : Int32)] [(.int (1 : Int32)), (.ref b840)])) t → Steps p.tables e below (s₁.setTop (entryFrame m #[(.int p0), (.int p1), (.int p2), (.int p3), (.int p4), (.int p5)] maxLocals)) t := fun t kt => by
        refine pre1144 _ ?_
        show Steps p.tables e below (T1104.setTop (mkF m 125 #[iv p0, iv p1, iv p2, iv p3, iv p4, iv p5, iv (3 : Int32), rv b840, iv (0 : Int32), iv p5, iv p1, iv p2, .unset] [(.int p5)])) _
        refine XS.iload X1104.here hx rfl (hb hby at_125) rfl ?_
        show Steps p.tables e below (T1104.setTop (mkF m 127 #[iv p0, iv p1, iv p2, iv p3, iv p4, iv p5, iv (3 : Int32), rv b840, iv (0 : Int32), iv p5, iv p1, iv p2, .unset] [(.int p5), (.int p5)])) _
        refine XS.icmpNo X1104.here hx rfl (hb hby at_127) rfl (XT.ii_ne_f rfl) ?_
        show Steps p.tables e below (T1104.setTop (mkF m 130 #[iv p0, iv p1, iv p2, iv p3, iv p4, iv p5, iv (3 : Int32), rv b840, iv (0 : Int32), iv p5, iv p1, iv p2, .unset] [])) _
        refine XS.iconst X1104.here hx rfl (hb hby at_130) ?_
        show Steps p.tables e below (T1104.setTop (mkF m 131 #[iv p0, iv p1, iv p2, iv p3, iv p4, iv p5, iv (3 : Int32), rv b840, iv (0 : Int32), iv p5, iv p1, iv p2, .unset] [(.int (1 : Int32))])) _
        refine XS.goto X1104.here hx rfl (pc0 := 131) (pc' := 135) rfl (hb hby at_131) (by decide) (by decide) ?_
        show Steps p.tables e below (T1104.setTop (mkF m 135 #[iv p0, iv p1, iv p2, iv p3, iv p4, iv p5, iv (3 : Int32), rv b840, iv (0 : Int32), iv p5, iv p1, iv p2, .unset] [(.int (1 : Int32))])) _
        refine XS.istore X1104.here hx rfl (hb hby at_135) rfl (l' := #[iv p0, iv p1, iv p2, iv p3, iv p4, iv p5, iv (3 : Int32), rv b840, iv (0 : Int32), iv p5, iv p1, iv p2, iv (1 : Int32)]) rfl ?_
        show Steps p.tables e below (T1104.setTop (mkF m 137 #[iv p0, iv p1, iv p2, iv p3, iv p4, iv p5, iv (3 : Int32), rv b840, iv (0 : Int32), iv p5, iv p1, iv p2, iv (1 : Int32)] [])) _
        refine XS.iload X1104.here hx rfl (hb hby at_137) rfl ?_
        show Steps p.tables e below (T1104.setTop (mkF m 139 #[iv p0, iv p1, iv p2, iv p3, iv p4, iv p5, iv (3 : Int32), rv b840, iv (0 : Int32), iv p5, iv p1, iv p2, iv (1 : Int32)] [(.int (3 : Int32))])) _
        refine XS.iconst X1104.here hx rfl (hb hby at_139) ?_
        show Steps p.tables e below (T1104.setTop (mkF m 140 #[iv p0, iv p1, iv p2, iv p3, iv p4, iv p5, iv (3 : Int32), rv b840, iv (0 : Int32), iv p5, iv p1, iv p2, iv (1 : Int32)] [(.int (2 : Int32)), (.int (3 : Int32))])) _
        refine XS.icmpNo X1104.here hx rfl (hb hby at_140) rfl (XT.ii_lt_f (by decide)) ?_
        show Steps p.tables e below (T1104.setTop (mkF m 143 #[iv p0, iv p1, iv p2, iv p3, iv p4, iv p5, iv (3 : Int32), rv b840, iv (0 : Int32), iv p5, iv p1, iv p2, iv (1 : Int32)] [])) _
        refine XS.iload X1104.here hx rfl (hb hby at_143) rfl ?_
        show Steps p.tables e below (T1104.setTop (mkF m 145 #[iv p0, iv p1, iv p2, iv p3, iv p4, iv p5, iv (3 : Int32), rv b840, iv (0 : Int32), iv p5, iv p1, iv p2, iv (1 : Int32)] [(.int (1 : Int32))])) _
        refine XS.ifNo X1104.here hx rfl (hb hby at_145) rfl (XT.i0_eq_f (by decide)) ?_
        show Steps p.tables e below (T1104.setTop (mkF m 148 #[iv p0, iv p1, iv p2, iv p3, iv p4, iv p5, iv (3 : Int32), rv b840, iv (0 : Int32), iv p5, iv p1, iv p2, iv (1 : Int32)] [])) _
        refine XS.aload X1104.here hx rfl (hb hby at_148) rfl rfl ?_
        show Steps p.tables e below (T1104.setTop (mkF m 150 #[iv p0, iv p1, iv p2, iv p3, iv p4, iv p5, iv (3 : Int32), rv b840, iv (0 : Int32), iv p5, iv p1, iv p2, iv (1 : Int32)] [(.ref b840)])) _
        refine XS.iconst X1104.here hx rfl (hb hby at_150) ?_
        exact kt
      obtain ⟨cq1146, kq1146, q1146a, q1146b, q1146c⟩ := isOf hZ e1104 F1088
      obtain ⟨_, _, ⟨T1146, L1146, k1146, n1146⟩, -, X1146, ⟨Lc1146, hQ1146, l1146, y1146, z1146⟩, st1146⟩ := X1104.virtualBack hx (y := (⟨"org/reachwatch/IntBlocks", "get", "(I)I"⟩ : MethodName)) (z := (⟨"org/reachwatch/IntBlocks", "get", "(I)I"⟩ : MethodName)) hown (mvT hZ (W 42 rfl)) (mvT hZ (W 43 rfl)) (notFace_of_selects (args := #[]) (mvT hZ (W 45 rfl))) (mvT hZ (W 45 rfl)) (mvT hZ (W 44 rfl)) (by decide) (backOf (W := 0) (rm_get8_4 l Z a0 hw [] b840 k51_846 b51_846 b221_849 p5 p1 p2 k221_849 h1013 n0 O1013 F1087 F1089 F1090 J1013_1) hZ (W 46 rfl) (W 3 rfl) (by decide) (by decide)) q1146a q1146c (g := (mkF m 151 #[iv p0, iv p1, iv p2, iv p3, iv p4, iv p5, iv (3 : Int32), rv b840, iv (0 : Int32), iv p5, iv p1, iv p2, iv (1 : Int32)] [(.int (1 : Int32)), (.ref b840)])) rfl (by rw [hml]; rfl) (Steps.refl _) (argsL := [(.int (1 : Int32))]) (rest := []) (lenOf pd_18 rfl) rfl (by show 2 * 0 + _ ≤ _; exact Nat.le_of_eq rfl) (hb hby at_151) (fun _ _ => ⟨rfl, e1104, (by decide : 3 + 0 ≤ _), (by decide : 19 + 0 ≤ _)⟩)
      dsimp only [Pt.U, Pt.locs, Pt.cells, Pt.slots] at X1146 l1146 y1146 z1146 st1146 hQ1146
      replace l1146 := l1146.symm
      replace y1146 : 3 = k1146 := y1146.symm
      replace z1146 : 19 = n1146 := z1146.symm
      subst l1146 y1146 z1146
      obtain ⟨rfl, M1146, e1146⟩ := hQ1146
      have N1146 := Fr.app N1104 M1146
      have pre1198 : ∀ t, Steps p.tables e below (T1146.setTop (mkF m 154 #[iv p0, iv p1, iv p2, iv p3, iv p4, iv p5, iv (3 : Int32), rv b840, iv (0 : Int32), iv p5, iv p1, iv p2, iv (1 : Int32)] [(.int p1)])) t → Steps p.tables e below (s₁.setTop (entryFrame m #[(.int p0), (.int p1), (.int p2), (.int p3), (.int p4), (.int p5)] maxLocals)) t := fun t kt => pre1145 _ (st1146.trans kt)
      have pre1199 : ∀ t, Steps p.tables e below (T1146.setTop (mkF m 180 #[iv p0, iv p1, iv p2, iv p3, iv p4, iv p5, iv (3 : Int32), rv b840, iv (0 : Int32), iv p5, iv p1, iv p2, iv (1 : Int32)] [(.int (2 : Int32)), (.ref b840)])) t → Steps p.tables e below (s₁.setTop (entryFrame m #[(.int p0), (.int p1), (.int p2), (.int p3), (.int p4), (.int p5)] maxLocals)) t := fun t kt => by
        refine pre1198 _ ?_
        show Steps p.tables e below (T1146.setTop (mkF m 154 #[iv p0, iv p1, iv p2, iv p3, iv p4, iv p5, iv (3 : Int32), rv b840, iv (0 : Int32), iv p5, iv p1, iv p2, iv (1 : Int32)] [(.int p1)])) _
        refine XS.iload X1146.here hx rfl (hb hby at_154) rfl ?_
        show Steps p.tables e below (T1146.setTop (mkF m 156 #[iv p0, iv p1, iv p2, iv p3, iv p4, iv p5, iv (3 : Int32), rv b840, iv (0 : Int32), iv p5, iv p1, iv p2, iv (1 : Int32)] [(.int p1), (.int p1)])) _
        refine XS.icmpNo X1146.here hx rfl (hb hby at_156) rfl (XT.ii_ne_f rfl) ?_
        show Steps p.tables e below (T1146.setTop (mkF m 159 #[iv p0, iv p1, iv p2, iv p3, iv p4, iv p5, iv (3 : Int32), rv b840, iv (0 : Int32), iv p5, iv p1, iv p2, iv (1 : Int32)] [])) _
        refine XS.iconst X1146.here hx rfl (hb hby at_159) ?_
        show Steps p.tables e below (T1146.setTop (mkF m 160 #[iv p0, iv p1, iv p2, iv p3, iv p4, iv p5, iv (3 : Int32), rv b840, iv (0 : Int32), iv p5, iv p1, iv p2, iv (1 : Int32)] [(.int (1 : Int32))])) _
        refine XS.goto X1146.here hx rfl (pc0 := 160) (pc' := 164) rfl (hb hby at_160) (by decide) (by decide) ?_
        show Steps p.tables e below (T1146.setTop (mkF m 164 #[iv p0, iv p1, iv p2, iv p3, iv p4, iv p5, iv (3 : Int32), rv b840, iv (0 : Int32), iv p5, iv p1, iv p2, iv (1 : Int32)] [(.int (1 : Int32))])) _
        refine XS.istore X1146.here hx rfl (hb hby at_164) rfl (l' := #[iv p0, iv p1, iv p2, iv p3, iv p4, iv p5, iv (3 : Int32), rv b840, iv (0 : Int32), iv p5, iv p1, iv p2, iv (1 : Int32)]) rfl ?_
        show Steps p.tables e below (T1146.setTop (mkF m 166 #[iv p0, iv p1, iv p2, iv p3, iv p4, iv p5, iv (3 : Int32), rv b840, iv (0 : Int32), iv p5, iv p1, iv p2, iv (1 : Int32)] [])) _
        refine XS.iload X1146.here hx rfl (hb hby at_166) rfl ?_
        show Steps p.tables e below (T1146.setTop (mkF m 168 #[iv p0, iv p1, iv p2, iv p3, iv p4, iv p5, iv (3 : Int32), rv b840, iv (0 : Int32), iv p5, iv p1, iv p2, iv (1 : Int32)] [(.int (3 : Int32))])) _
        refine XS.iconst X1146.here hx rfl (hb hby at_168) ?_
        show Steps p.tables e below (T1146.setTop (mkF m 169 #[iv p0, iv p1, iv p2, iv p3, iv p4, iv p5, iv (3 : Int32), rv b840, iv (0 : Int32), iv p5, iv p1, iv p2, iv (1 : Int32)] [(.int (3 : Int32)), (.int (3 : Int32))])) _
        refine XS.icmpNo X1146.here hx rfl (hb hby at_169) rfl (XT.ii_lt_f (by decide)) ?_
        show Steps p.tables e below (T1146.setTop (mkF m 172 #[iv p0, iv p1, iv p2, iv p3, iv p4, iv p5, iv (3 : Int32), rv b840, iv (0 : Int32), iv p5, iv p1, iv p2, iv (1 : Int32)] [])) _
        refine XS.iload X1146.here hx rfl (hb hby at_172) rfl ?_
        show Steps p.tables e below (T1146.setTop (mkF m 174 #[iv p0, iv p1, iv p2, iv p3, iv p4, iv p5, iv (3 : Int32), rv b840, iv (0 : Int32), iv p5, iv p1, iv p2, iv (1 : Int32)] [(.int (1 : Int32))])) _
        refine XS.ifNo X1146.here hx rfl (hb hby at_174) rfl (XT.i0_eq_f (by decide)) ?_
        show Steps p.tables e below (T1146.setTop (mkF m 177 #[iv p0, iv p1, iv p2, iv p3, iv p4, iv p5, iv (3 : Int32), rv b840, iv (0 : Int32), iv p5, iv p1, iv p2, iv (1 : Int32)] [])) _
        refine XS.aload X1146.here hx rfl (hb hby at_177) rfl rfl ?_
        show Steps p.tables e below (T1146.setTop (mkF m 179 #[iv p0, iv p1, iv p2, iv p3, iv p4, iv p5, iv (3 : Int32), rv b840, iv (0 : Int32), iv p5, iv p1, iv p2, iv (1 : Int32)] [(.ref b840)])) _
        refine XS.iconst X1146.here hx rfl (hb hby at_179) ?_
        exact kt
      obtain ⟨cq1200, kq1200, q1200a, q1200b, q1200c⟩ := isOf hZ e1146 F1088
      obtain ⟨_, _, ⟨T1200, L1200, k1200, n1200⟩, -, X1200, ⟨Lc1200, hQ1200, l1200, y1200, z1200⟩, st1200⟩ := X1146.virtualBack hx (y := (⟨"org/reachwatch/IntBlocks", "get", "(I)I"⟩ : MethodName)) (z := (⟨"org/reachwatch/IntBlocks", "get", "(I)I"⟩ : MethodName)) hown (mvT hZ (W 42 rfl)) (mvT hZ (W 43 rfl)) (notFace_of_selects (args := #[]) (mvT hZ (W 45 rfl))) (mvT hZ (W 45 rfl)) (mvT hZ (W 44 rfl)) (by decide) (backOf (W := 0) (rm_get8_5 l Z a0 hw [] b840 k51_846 b51_846 b221_849 p5 p1 p2 k221_849 h1013 n0 O1013 F1087 F1089 F1090 J1013_1) hZ (W 46 rfl) (W 3 rfl) (by decide) (by decide)) q1200a q1200c (g := (mkF m 180 #[iv p0, iv p1, iv p2, iv p3, iv p4, iv p5, iv (3 : Int32), rv b840, iv (0 : Int32), iv p5, iv p1, iv p2, iv (1 : Int32)] [(.int (2 : Int32)), (.ref b840)])) rfl (by rw [hml]; rfl) (Steps.refl _) (argsL := [(.int (2 : Int32))]) (rest := []) (lenOf pd_18 rfl) rfl (by show 2 * 0 + _ ≤ _; exact Nat.le_of_eq rfl) (hb hby at_180) (fun _ _ => ⟨rfl, e1146, (by decide : 3 + 0 ≤ _), (by decide : 19 + 0 ≤ _)⟩)
      dsimp only [Pt.U, Pt.locs, Pt.cells, Pt.slots] at X1200 l1200 y1200 z1200 st1200 hQ1200
      replace l1200 := l1200.symm
      replace y1200 : 3 = k1200 := y1200.symm
      replace z1200 : 19 = n1200 := z1200.symm
      subst l1200 y1200 z1200
      obtain ⟨rfl, M1200, e1200⟩ := hQ1200
      have N1200 := Fr.app N1146 M1200
      have pre1252 : ∀ t, Steps p.tables e below (T1200.setTop (mkF m 183 #[iv p0, iv p1, iv p2, iv p3, iv p4, iv p5, iv (3 : Int32), rv b840, iv (0 : Int32), iv p5, iv p1, iv p2, iv (1 : Int32)] [(.int p2)])) t → Steps p.tables e below (s₁.setTop (entryFrame m #[(.int p0), (.int p1), (.int p2), (.int p3), (.int p4), (.int p5)] maxLocals)) t := fun t kt => pre1199 _ (st1200.trans kt)
      have pre1253 : ∀ t, Steps p.tables e below (T1200.setTop (mkF m 197 #[iv p0, iv p1, iv p2, iv p3, iv p4, iv p5, iv (3 : Int32), rv b840, iv (0 : Int32), iv p5, iv p1, iv p2, iv (1 : Int32)] [(.int (1 : Int32))])) t → Steps p.tables e below (s₁.setTop (entryFrame m #[(.int p0), (.int p1), (.int p2), (.int p3), (.int p4), (.int p5)] maxLocals)) t := fun t kt => by
        refine pre1252 _ ?_
        show Steps p.tables e below (T1200.setTop (mkF m 183 #[iv p0, iv p1, iv p2, iv p3, iv p4, iv p5, iv (3 : Int32), rv b840, iv (0 : Int32), iv p5, iv p1, iv p2, iv (1 : Int32)] [(.int p2)])) _
        refine XS.iload X1200.here hx rfl (hb hby at_183) rfl ?_
        show Steps p.tables e below (T1200.setTop (mkF m 185 #[iv p0, iv p1, iv p2, iv p3, iv p4, iv p5, iv (3 : Int32), rv b840, iv (0 : Int32), iv p5, iv p1, iv p2, iv (1 : Int32)] [(.int p2), (.int p2)])) _
        refine XS.icmpNo X1200.here hx rfl (hb hby at_185) rfl (XT.ii_ne_f rfl) ?_
        show Steps p.tables e below (T1200.setTop (mkF m 188 #[iv p0, iv p1, iv p2, iv p3, iv p4, iv p5, iv (3 : Int32), rv b840, iv (0 : Int32), iv p5, iv p1, iv p2, iv (1 : Int32)] [])) _
        refine XS.iconst X1200.here hx rfl (hb hby at_188) ?_
        show Steps p.tables e below (T1200.setTop (mkF m 189 #[iv p0, iv p1, iv p2, iv p3, iv p4, iv p5, iv (3 : Int32), rv b840, iv (0 : Int32), iv p5, iv p1, iv p2, iv (1 : Int32)] [(.int (1 : Int32))])) _
        refine XS.goto X1200.here hx rfl (pc0 := 189) (pc' := 193) rfl (hb hby at_189) (by decide) (by decide) ?_
        show Steps p.tables e below (T1200.setTop (mkF m 193 #[iv p0, iv p1, iv p2, iv p3, iv p4, iv p5, iv (3 : Int32), rv b840, iv (0 : Int32), iv p5, iv p1, iv p2, iv (1 : Int32)] [(.int (1 : Int32))])) _
        refine XS.istore X1200.here hx rfl (hb hby at_193) rfl (l' := #[iv p0, iv p1, iv p2, iv p3, iv p4, iv p5, iv (3 : Int32), rv b840, iv (0 : Int32), iv p5, iv p1, iv p2, iv (1 : Int32)]) rfl ?_
        show Steps p.tables e below (T1200.setTop (mkF m 195 #[iv p0, iv p1, iv p2, iv p3, iv p4, iv p5, iv (3 : Int32), rv b840, iv (0 : Int32), iv p5, iv p1, iv p2, iv (1 : Int32)] [])) _
        refine XS.iload X1200.here hx rfl (hb hby at_195) rfl ?_
        exact kt
      obtain ⟨fs, hr, hrun, hended, hW, hsame⟩ := X1200.leave (v := some (.int (1 : Int32))) (fun h => by rw [Bd.returns] at h; cases h)
      refine ⟨_, _, pre1253 _ (retN X1200 hx (t := .boolean) Bd.returns (by simp) (hb hby at_197) hr), hrun, hended, _, _, rfl, ?_, ⟨_, rfl⟩, hW, hsame.mono (by decide) (by decide)⟩
      show Q_law Z p0 p1 p2 p3 p4 p5 h0 n0 _ T1200.heap _
      rw [e1200]
      exact ⟨rfl, N1200⟩
    · rw [hv1011] at pre1010
      have pre1254 : ∀ t, Steps p.tables e below (T857.setTop (mkF m 65 #[iv p0, iv p1, iv p2, iv p3, iv p4, iv p5, iv (3 : Int32), rv b840, iv (1 : Int32), .unset, .unset, .unset, .unset] [(.int p5), (.int (1 : Int32)), (.ref b840)])) t → Steps p.tables e below (s₁.setTop (entryFrame m #[(.int p0), (.int p1), (.int p2), (.int p3), (.int p4), (.int p5)] maxLocals)) t := fun t kt => by
        refine pre1010 _ ?_
        show Steps p.tables e below (T857.setTop (mkF m 57 #[iv p0, iv p1, iv p2, iv p3, iv p4, iv p5, iv (3 : Int32), rv b840, .unset, .unset, .unset, .unset, .unset] [(.int (1 : Int32))])) _
        refine XS.istore X857.here hx rfl (hb hby at_57) rfl (l' := #[iv p0, iv p1, iv p2, iv p3, iv p4, iv p5, iv (3 : Int32), rv b840, iv (1 : Int32), .unset, .unset, .unset, .unset]) rfl ?_
        show Steps p.tables e below (T857.setTop (mkF m 59 #[iv p0, iv p1, iv p2, iv p3, iv p4, iv p5, iv (3 : Int32), rv b840, iv (1 : Int32), .unset, .unset, .unset, .unset] [])) _
        refine XS.aload X857.here hx rfl (hb hby at_59) rfl rfl ?_
        show Steps p.tables e below (T857.setTop (mkF m 61 #[iv p0, iv p1, iv p2, iv p3, iv p4, iv p5, iv (3 : Int32), rv b840, iv (1 : Int32), .unset, .unset, .unset, .unset] [(.ref b840)])) _
        refine XS.iload X857.here hx rfl (hb hby at_61) rfl ?_
        show Steps p.tables e below (T857.setTop (mkF m 63 #[iv p0, iv p1, iv p2, iv p3, iv p4, iv p5, iv (3 : Int32), rv b840, iv (1 : Int32), .unset, .unset, .unset, .unset] [(.int (1 : Int32)), (.ref b840)])) _
        refine XS.iload X857.here hx rfl (hb hby at_63) rfl ?_
        exact kt
      obtain ⟨cq1255, kq1255, q1255a, q1255b, q1255c⟩ := isOf hZ e857 J857_0
      obtain ⟨_, _, ⟨T1255, L1255, k1255, n1255⟩, -, X1255, ⟨Lc1255, hQ1255, l1255, y1255, z1255⟩, st1255⟩ := X857.virtualBack hx (y := (⟨"org/reachwatch/IntBlocks", "set", "(II)V"⟩ : MethodName)) (z := (⟨"org/reachwatch/IntBlocks", "set", "(II)V"⟩ : MethodName)) hown (mvT hZ (W 24 rfl)) (mvT hZ (W 25 rfl)) (notFace_of_selects (args := #[]) (mvT hZ (W 27 rfl))) (mvT hZ (W 27 rfl)) (mvT hZ (W 26 rfl)) (by decide) (backOf (W := 0) (rm_set4_4 l Z a0 hw [] b840 p5 k51_846 b51_846 b221_849 p0 p1 p2 k221_849 h857 n0 O857 g_b221_849 F1009 J857_1 J857_2 J857_3 J857_4 (fun q => ne_b840_b221_849 q.symm) (fun q => ne_b51_846_b221_849 q.symm)) hZ (W 28 rfl) (W 3 rfl) (by decide) (by decide)) q1255a q1255c (g := (mkF m 65 #[iv p0, iv p1, iv p2, iv p3, iv p4, iv p5, iv (3 : Int32), rv b840, iv (1 : Int32), .unset, .unset, .unset, .unset] [(.int p5), (.int (1 : Int32)), (.ref b840)])) rfl (by rw [hml]; rfl) (Steps.refl _) (argsL := [(.int (1 : Int32)), (.int p5)]) (rest := []) (lenOf pd_14 rfl) rfl (by show 2 * 0 + _ ≤ _; exact Nat.le_of_eq rfl) (hb hby at_65) (fun _ _ => ⟨rfl, e857, (by decide : 3 + 0 ≤ _), (by decide : 19 + 0 ≤ _)⟩)
      dsimp only [Pt.U, Pt.locs, Pt.cells, Pt.slots] at X1255 l1255 y1255 z1255 st1255 hQ1255
      replace l1255 := l1255.symm
      replace y1255 : 3 = k1255 := y1255.symm
      replace z1255 : 19 = n1255 := z1255.symm
      subst l1255 y1255 z1255
      obtain ⟨rfl, M1255, Kc1255, O1255, J1255_0, J1255_1⟩ := hQ1255
      obtain ⟨h1255, e1255⟩ : ∃ z, T1255.heap = z := ⟨_, rfl⟩
      rw [e1255] at Kc1255 O1255 J1255_0 J1255_1
      have N1255 := Fr.app N857 M1255
      have K1255 : Keep h0 h1255 [] := K857.trans Kc1255 (own_all1 (Or.inr sz_b221_849))
      have pre1315 : ∀ t, Steps p.tables e below (T1255.setTop (mkF m 68 #[iv p0, iv p1, iv p2, iv p3, iv p4, iv p5, iv (3 : Int32), rv b840, iv (1 : Int32), .unset, .unset, .unset, .unset] [])) t → Steps p.tables e below (s₁.setTop (entryFrame m #[(.int p0), (.int p1), (.int p2), (.int p3), (.int p4), (.int p5)] maxLocals)) t := fun t kt => pre1254 _ (st1255.trans kt)
      have F1316 := F1008.keep Kc1255
      have F1317 := F1009.keep Kc1255 (own_nm1 ne_b51_846_b221_849)
      have F1318 := J857_0.keep Kc1255
      have F1319 := J857_1.keep Kc1255 (own_nm1 ne_b840_b221_849)
      have F1320 := J857_4.keep Kc1255 (own_nm1 ne_b840_b221_849)
      have pre1321 : ∀ t, Steps p.tables e below (T1255.setTop (mkF m 111 #[iv p0, iv p1, iv p2, iv p3, iv p4, iv p5, iv (3 : Int32), rv b840, iv (1 : Int32), iv p0, iv p5, iv p2, .unset] [(.ref b840)])) t → Steps p.tables e below (s₁.setTop (entryFrame m #[(.int p0), (.int p1), (.int p2), (.int p3), (.int p4), (.int p5)] maxLocals)) t := fun t kt => by
        refine pre1315 _ ?_
        show Steps p.tables e below (T1255.setTop (mkF m 68 #[iv p0, iv p1, iv p2, iv p3, iv p4, iv p5, iv (3 : Int32), rv b840, iv (1 : Int32), .unset, .unset, .unset, .unset] [])) _
        refine XS.iload X1255.here hx rfl (hb hby at_68) rfl ?_
        show Steps p.tables e below (T1255.setTop (mkF m 70 #[iv p0, iv p1, iv p2, iv p3, iv p4, iv p5, iv (3 : Int32), rv b840, iv (1 : Int32), .unset, .unset, .unset, .unset] [(.int (1 : Int32))])) _
        refine XS.ifYes X1255.here hx rfl (pc0 := 70) (pc' := 78) rfl (hb hby at_70) rfl (XT.i0_ne_t (by decide)) (by decide) (by decide) ?_
        show Steps p.tables e below (T1255.setTop (mkF m 78 #[iv p0, iv p1, iv p2, iv p3, iv p4, iv p5, iv (3 : Int32), rv b840, iv (1 : Int32), .unset, .unset, .unset, .unset] [])) _
        refine XS.iloadN X1255.here hx rfl (hb hby at_78) rfl ?_
        show Steps p.tables e below (T1255.setTop (mkF m 79 #[iv p0, iv p1, iv p2, iv p3, iv p4, iv p5, iv (3 : Int32), rv b840, iv (1 : Int32), .unset, .unset, .unset, .unset] [(.int p0)])) _
        refine XS.istore X1255.here hx rfl (hb hby at_79) rfl (l' := #[iv p0, iv p1, iv p2, iv p3, iv p4, iv p5, iv (3 : Int32), rv b840, iv (1 : Int32), iv p0, .unset, .unset, .unset]) rfl ?_
        show Steps p.tables e below (T1255.setTop (mkF m 81 #[iv p0, iv p1, iv p2, iv p3, iv p4, iv p5, iv (3 : Int32), rv b840, iv (1 : Int32), iv p0, .unset, .unset, .unset] [])) _
        refine XS.iload X1255.here hx rfl (hb hby at_81) rfl ?_
        show Steps p.tables e below (T1255.setTop (mkF m 83 #[iv p0, iv p1, iv p2, iv p3, iv p4, iv p5, iv (3 : Int32), rv b840, iv (1 : Int32), iv p0, .unset, .unset, .unset] [(.int (1 : Int32))])) _
        refine XS.iconst X1255.here hx rfl (hb hby at_83) ?_
        show Steps p.tables e below (T1255.setTop (mkF m 84 #[iv p0, iv p1, iv p2, iv p3, iv p4, iv p5, iv (3 : Int32), rv b840, iv (1 : Int32), iv p0, .unset, .unset, .unset] [(.int (1 : Int32)), (.int (1 : Int32))])) _
        refine XS.icmpNo X1255.here hx rfl (hb hby at_84) rfl (XT.ii_ne_f (by decide)) ?_
        show Steps p.tables e below (T1255.setTop (mkF m 87 #[iv p0, iv p1, iv p2, iv p3, iv p4, iv p5, iv (3 : Int32), rv b840, iv (1 : Int32), iv p0, .unset, .unset, .unset] [])) _
        refine XS.iload X1255.here hx rfl (hb hby at_87) rfl ?_
        show Steps p.tables e below (T1255.setTop (mkF m 89 #[iv p0, iv p1, iv p2, iv p3, iv p4, iv p5, iv (3 : Int32), rv b840, iv (1 : Int32), iv p0, .unset, .unset, .unset] [(.int p5)])) _
        refine XS.goto X1255.here hx rfl (pc0 := 89) (pc' := 93) rfl (hb hby at_89) (by decide) (by decide) ?_
        show Steps p.tables e below (T1255.setTop (mkF m 93 #[iv p0, iv p1, iv p2, iv p3, iv p4, iv p5, iv (3 : Int32), rv b840, iv (1 : Int32), iv p0, .unset, .unset, .unset] [(.int p5)])) _
        refine XS.istore X1255.here hx rfl (hb hby at_93) rfl (l' := #[iv p0, iv p1, iv p2, iv p3, iv p4, iv p5, iv (3 : Int32), rv b840, iv (1 : Int32), iv p0, iv p5, .unset, .unset]) rfl ?_
        show Steps p.tables e below (T1255.setTop (mkF m 95 #[iv p0, iv p1, iv p2, iv p3, iv p4, iv p5, iv (3 : Int32), rv b840, iv (1 : Int32), iv p0, iv p5, .unset, .unset] [])) _
        refine XS.iload X1255.here hx rfl (hb hby at_95) rfl ?_
        show Steps p.tables e below (T1255.setTop (mkF m 97 #[iv p0, iv p1, iv p2, iv p3, iv p4, iv p5, iv (3 : Int32), rv b840, iv (1 : Int32), iv p0, iv p5, .unset, .unset] [(.int (1 : Int32))])) _
        refine XS.iconst X1255.here hx rfl (hb hby at_97) ?_
        show Steps p.tables e below (T1255.setTop (mkF m 98 #[iv p0, iv p1, iv p2, iv p3, iv p4, iv p5, iv (3 : Int32), rv b840, iv (1 : Int32), iv p0, iv p5, .unset, .unset] [(.int (2 : Int32)), (.int (1 : Int32))])) _
        refine XS.icmpYes X1255.here hx rfl (pc0 := 98) (pc' := 106) rfl (hb hby at_98) rfl (XT.ii_ne_t (by decide)) (by decide) (by decide) ?_
        show Steps p.tables e below (T1255.setTop (mkF m 106 #[iv p0, iv p1, iv p2, iv p3, iv p4, iv p5, iv (3 : Int32), rv b840, iv (1 : Int32), iv p0, iv p5, .unset, .unset] [])) _
        refine XS.iloadN X1255.here hx rfl (hb hby at_106) rfl ?_
        show Steps p.tables e below (T1255.setTop (mkF m 107 #[iv p0, iv p1, iv p2, iv p3, iv p4, iv p5, iv (3 : Int32), rv b840, iv (1 : Int32), iv p0, iv p5, .unset, .unset] [(.int p2)])) _
        refine XS.istore X1255.here hx rfl (hb hby at_107) rfl (l' := #[iv p0, iv p1, iv p2, iv p3, iv p4, iv p5, iv (3 : Int32), rv b840, iv (1 : Int32), iv p0, iv p5, iv p2, .unset]) rfl ?_
        show Steps p.tables e below (T1255.setTop (mkF m 109 #[iv p0, iv p1, iv p2, iv p3, iv p4, iv p5, iv (3 : Int32), rv b840, iv (1 : Int32), iv p0, iv p5, iv p2, .unset] [])) _
        refine XS.aload X1255.here hx rfl (hb hby at_109) rfl rfl ?_
        exact kt
      obtain ⟨cq1322, kq1322, q1322a, q1322b, q1322c⟩ := isOf hZ e1255 F1318
      obtain ⟨_, _, ⟨T1322, L1322, k1322, n1322⟩, -, X1322, ⟨Lc1322, hQ1322, l1322, y1322, z1322⟩, st1322⟩ := X1255.virtualBack hx (y := (⟨"org/reachwatch/IntBlocks", "size", "()I"⟩ : MethodName)) (z := (⟨"org/reachwatch/IntBlocks", "size", "()I"⟩ : MethodName)) hown (mvT hZ (W 37 rfl)) (mvT hZ (W 38 rfl)) (notFace_of_selects (args := #[]) (mvT hZ (W 40 rfl))) (mvT hZ (W 40 rfl)) (mvT hZ (W 39 rfl)) (by decide) (backOf (W := 0) (rm_size7_2 l Z a0 hw [] b840 h1255 n0 O1255 F1320) hZ (W 41 rfl) (W 3 rfl) (by decide) (by decide)) q1322a q1322c (g := (mkF m 111 #[iv p0, iv p1, iv p2, iv p3, iv p4, iv p5, iv (3 : Int32), rv b840, iv (1 : Int32), iv p0, iv p5, iv p2, .unset] [(.ref b840)])) rfl (by rw [hml]; rfl) (Steps.refl _) (argsL := []) (rest := []) (lenOf pd_16 rfl) rfl (by show 2 * 0 + _ ≤ _; exact Nat.le_of_eq rfl) (hb hby at_111) (fun _ _ => ⟨rfl, e1255, (by decide : 3 + 0 ≤ _), (by decide : 19 + 0 ≤ _)⟩)
      dsimp only [Pt.U, Pt.locs, Pt.cells, Pt.slots] at X1322 l1322 y1322 z1322 st1322 hQ1322
      replace l1322 := l1322.symm
      replace y1322 : 3 = k1322 := y1322.symm
      replace z1322 : 19 = n1322 := z1322.symm
      subst l1322 y1322 z1322
      obtain ⟨rfl, M1322, e1322⟩ := hQ1322
      have N1322 := Fr.app N1255 M1322
      have pre1323 : ∀ t, Steps p.tables e below (T1322.setTop (mkF m 114 #[iv p0, iv p1, iv p2, iv p3, iv p4, iv p5, iv (3 : Int32), rv b840, iv (1 : Int32), iv p0, iv p5, iv p2, .unset] [(.int (3 : Int32))])) t → Steps p.tables e below (s₁.setTop (entryFrame m #[(.int p0), (.int p1), (.int p2), (.int p3), (.int p4), (.int p5)] maxLocals)) t := fun t kt => pre1321 _ (st1322.trans kt)
      have pre1324 : ∀ t, Steps p.tables e below (T1322.setTop (mkF m 122 #[iv p0, iv p1, iv p2, iv p3, iv p4, iv p5, iv (3 : Int32), rv b840, iv (1 : Int32), iv p0, iv p5, iv p2, .unset] [(.int (0 : Int32)), (.ref b840)])) t → Steps p.tables e below (s₁.setTop (entryFrame m #[(.int p0), (.int p1), (.int p2), (.int p3), (.int p4), (.int p5)] maxLocals)) t := fun t kt => by
        refine pre1323 _ ?_
        show Steps p.tables e below (T1322.setTop (mkF m 114 #[iv p0, iv p1, iv p2, iv p3, iv p4, iv p5, iv (3 : Int32), rv b840, iv (1 : Int32), iv p0, iv p5, iv p2, .unset] [(.int (3 : Int32))])) _
        refine XS.iload X1322.here hx rfl (hb hby at_114) rfl ?_
        show Steps p.tables e below (T1322.setTop (mkF m 116 #[iv p0, iv p1, iv p2, iv p3, iv p4, iv p5, iv (3 : Int32), rv b840, iv (1 : Int32), iv p0, iv p5, iv p2, .unset] [(.int (3 : Int32)), (.int (3 : Int32))])) _
        refine XS.icmpNo X1322.here hx rfl (hb hby at_116) rfl (XT.ii_ne_f (by decide)) ?_
        show Steps p.tables e below (T1322.setTop (mkF m 119 #[iv p0, iv p1, iv p2, iv p3, iv p4, iv p5, iv (3 : Int32), rv b840, iv (1 : Int32), iv p0, iv p5, iv p2, .unset] [])) _
        refine XS.aload X1322.here hx rfl (hb hby at_119) rfl rfl ?_
        show Steps p.tables e below (T1322.setTop (mkF m 121 #[iv p0, iv p1, iv p2, iv p3, iv p4, iv p5, iv (3 : Int32), rv b840, iv (1 : Int32), iv p0, iv p5, iv p2, .unset] [(.ref b840)])) _
        refine XS.iconst X1322.here hx rfl (hb hby at_121) ?_
        exact kt
      obtain ⟨cq1325, kq1325, q1325a, q1325b, q1325c⟩ := isOf hZ e1322 F1318
      obtain ⟨_, _, ⟨T1325, L1325, k1325, n1325⟩, -, X1325, ⟨Lc1325, hQ1325, l1325, y1325, z1325⟩, st1325⟩ := X1322.virtualBack hx (y := (⟨"org/reachwatch/IntBlocks", "get", "(I)I"⟩ : MethodName)) (z := (⟨"org/reachwatch/IntBlocks", "get", "(I)I"⟩ : MethodName)) hown (mvT hZ (W 42 rfl)) (mvT hZ (W 43 rfl)) (notFace_of_selects (args := #[]) (mvT hZ (W 45 rfl))) (mvT hZ (W 45 rfl)) (mvT hZ (W 44 rfl)) (by decide) (backOf (W := 0) (rm_get8_3 l Z a0 hw [] b840 k51_846 b51_846 b221_849 p0 p5 p2 k221_849 h1255 n0 O1255 F1317 F1319 F1320 J1255_1) hZ (W 46 rfl) (W 3 rfl) (by decide) (by decide)) q1325a q1325c (g := (mkF m 122 #[iv p0, iv p1, iv p2, iv p3, iv p4, iv p5, iv (3 : Int32), rv b840, iv (1 : Int32), iv p0, iv p5, iv p2, .unset] [(.int (0 : Int32)), (.ref b840)])) rfl (by rw [hml]; rfl) (Steps.refl _) (argsL := [(.int (0 : Int32))]) (rest := []) (lenOf pd_18 rfl) rfl (by show 2 * 0 + _ ≤ _; exact Nat.le_of_eq rfl) (hb hby at_122) (fun _ _ => ⟨rfl, e1322, (by decide : 3 + 0 ≤ _), (by decide : 19 + 0 ≤ _)⟩)
      dsimp only [Pt.U, Pt.locs, Pt.cells, Pt.slots] at X1325 l1325 y1325 z1325 st1325 hQ1325
      replace l1325 := l1325.symm
      replace y1325 : 3 = k1325 := y1325.symm
      replace z1325 : 19 = n1325 := z1325.symm
      subst l1325 y1325 z1325
      obtain ⟨rfl, M1325, e1325⟩ := hQ1325
      have N1325 := Fr.app N1322 M1325
      have pre1326 : ∀ t, Steps p.tables e below (T1325.setTop (mkF m 125 #[iv p0, iv p1, iv p2, iv p3, iv p4, iv p5, iv (3 : Int32), rv b840, iv (1 : Int32), iv p0, iv p5, iv p2, .unset] [(.int p0)])) t → Steps p.tables e below (s₁.setTop (entryFrame m #[(.int p0), (.int p1), (.int p2), (.int p3), (.int p4), (.int p5)] maxLocals)) t := fun t kt => pre1324 _ (st1325.trans kt)
      have pre1327 : ∀ t, Steps p.tables e below (T1325.setTop (mkF m 151 #[iv p0, iv p1, iv p2, iv p3, iv p4, iv p5, iv (3 : Int32), rv b840, iv (1 : Int32), iv p0, iv p5, iv p2, iv (1 : Int32)] [(.int (1 : Int32)), (.ref b840)])) t → Steps p.tables e below (s₁.setTop (entryFrame m #[(.int p0), (.int p1), (.int p2), (.int p3), (.int p4), (.int p5)] maxLocals)) t := fun t kt => by
        refine pre1326 _ ?_
        show Steps p.tables e below (T1325.setTop (mkF m 125 #[iv p0, iv p1, iv p2, iv p3, iv p4, iv p5, iv (3 : Int32), rv b840, iv (1 : Int32), iv p0, iv p5, iv p2, .unset] [(.int p0)])) _
        refine XS.iload X1325.here hx rfl (hb hby at_125) rfl ?_
        show Steps p.tables e below (T1325.setTop (mkF m 127 #[iv p0, iv p1, iv p2, iv p3, iv p4, iv p5, iv (3 : Int32), rv b840, iv (1 : Int32), iv p0, iv p5, iv p2, .unset] [(.int p0), (.int p0)])) _
        refine XS.icmpNo X1325.here hx rfl (hb hby at_127) rfl (XT.ii_ne_f rfl) ?_
        show Steps p.tables e below (T1325.setTop (mkF m 130 #[iv p0, iv p1, iv p2, iv p3, iv p4, iv p5, iv (3 : Int32), rv b840, iv (1 : Int32), iv p0, iv p5, iv p2, .unset] [])) _
        refine XS.iconst X1325.here hx rfl (hb hby at_130) ?_
        show Steps p.tables e below (T1325.setTop (mkF m 131 #[iv p0, iv p1, iv p2, iv p3, iv p4, iv p5, iv (3 : Int32), rv b840, iv (1 : Int32), iv p0, iv p5, iv p2, .unset] [(.int (1 : Int32))])) _
        refine XS.goto X1325.here hx rfl (pc0 := 131) (pc' := 135) rfl (hb hby at_131) (by decide) (by decide) ?_
        show Steps p.tables e below (T1325.setTop (mkF m 135 #[iv p0, iv p1, iv p2, iv p3, iv p4, iv p5, iv (3 : Int32), rv b840, iv (1 : Int32), iv p0, iv p5, iv p2, .unset] [(.int (1 : Int32))])) _
        refine XS.istore X1325.here hx rfl (hb hby at_135) rfl (l' := #[iv p0, iv p1, iv p2, iv p3, iv p4, iv p5, iv (3 : Int32), rv b840, iv (1 : Int32), iv p0, iv p5, iv p2, iv (1 : Int32)]) rfl ?_
        show Steps p.tables e below (T1325.setTop (mkF m 137 #[iv p0, iv p1, iv p2, iv p3, iv p4, iv p5, iv (3 : Int32), rv b840, iv (1 : Int32), iv p0, iv p5, iv p2, iv (1 : Int32)] [])) _
        refine XS.iload X1325.here hx rfl (hb hby at_137) rfl ?_
        show Steps p.tables e below (T1325.setTop (mkF m 139 #[iv p0, iv p1, iv p2, iv p3, iv p4, iv p5, iv (3 : Int32), rv b840, iv (1 : Int32), iv p0, iv p5, iv p2, iv (1 : Int32)] [(.int (3 : Int32))])) _
        refine XS.iconst X1325.here hx rfl (hb hby at_139) ?_
        show Steps p.tables e below (T1325.setTop (mkF m 140 #[iv p0, iv p1, iv p2, iv p3, iv p4, iv p5, iv (3 : Int32), rv b840, iv (1 : Int32), iv p0, iv p5, iv p2, iv (1 : Int32)] [(.int (2 : Int32)), (.int (3 : Int32))])) _
        refine XS.icmpNo X1325.here hx rfl (hb hby at_140) rfl (XT.ii_lt_f (by decide)) ?_
        show Steps p.tables e below (T1325.setTop (mkF m 143 #[iv p0, iv p1, iv p2, iv p3, iv p4, iv p5, iv (3 : Int32), rv b840, iv (1 : Int32), iv p0, iv p5, iv p2, iv (1 : Int32)] [])) _
        refine XS.iload X1325.here hx rfl (hb hby at_143) rfl ?_
        show Steps p.tables e below (T1325.setTop (mkF m 145 #[iv p0, iv p1, iv p2, iv p3, iv p4, iv p5, iv (3 : Int32), rv b840, iv (1 : Int32), iv p0, iv p5, iv p2, iv (1 : Int32)] [(.int (1 : Int32))])) _
        refine XS.ifNo X1325.here hx rfl (hb hby at_145) rfl (XT.i0_eq_f (by decide)) ?_
        show Steps p.tables e below (T1325.setTop (mkF m 148 #[iv p0, iv p1, iv p2, iv p3, iv p4, iv p5, iv (3 : Int32), rv b840, iv (1 : Int32), iv p0, iv p5, iv p2, iv (1 : Int32)] [])) _
        refine XS.aload X1325.here hx rfl (hb hby at_148) rfl rfl ?_
        show Steps p.tables e below (T1325.setTop (mkF m 150 #[iv p0, iv p1, iv p2, iv p3, iv p4, iv p5, iv (3 : Int32), rv b840, iv (1 : Int32), iv p0, iv p5, iv p2, iv (1 : Int32)] [(.ref b840)])) _
        refine XS.iconst X1325.here hx rfl (hb hby at_150) ?_
        exact kt
      obtain ⟨cq1328, kq1328, q1328a, q1328b, q1328c⟩ := isOf hZ e1325 F1318
      obtain ⟨_, _, ⟨T1328, L1328, k1328, n1328⟩, -, X1328, ⟨Lc1328, hQ1328, l1328, y1328, z1328⟩, st1328⟩ := X1325.virtualBack hx (y := (⟨"org/reachwatch/IntBlocks", "get", "(I)I"⟩ : MethodName)) (z := (⟨"org/reachwatch/IntBlocks", "get", "(I)I"⟩ : MethodName)) hown (mvT hZ (W 42 rfl)) (mvT hZ (W 43 rfl)) (notFace_of_selects (args := #[]) (mvT hZ (W 45 rfl))) (mvT hZ (W 45 rfl)) (mvT hZ (W 44 rfl)) (by decide) (backOf (W := 0) (rm_get8_4 l Z a0 hw [] b840 k51_846 b51_846 b221_849 p0 p5 p2 k221_849 h1255 n0 O1255 F1317 F1319 F1320 J1255_1) hZ (W 46 rfl) (W 3 rfl) (by decide) (by decide)) q1328a q1328c (g := (mkF m 151 #[iv p0, iv p1, iv p2, iv p3, iv p4, iv p5, iv (3 : Int32), rv b840, iv (1 : Int32), iv p0, iv p5, iv p2, iv (1 : Int32)] [(.int (1 : Int32)), (.ref b840)])) rfl (by rw [hml]; rfl) (Steps.refl _) (argsL := [(.int (1 : Int32))]) (rest := []) (lenOf pd_18 rfl) rfl (by show 2 * 0 + _ ≤ _; exact Nat.le_of_eq rfl) (hb hby at_151) (fun _ _ => ⟨rfl, e1325, (by decide : 3 + 0 ≤ _), (by decide : 19 + 0 ≤ _)⟩)
      dsimp only [Pt.U, Pt.locs, Pt.cells, Pt.slots] at X1328 l1328 y1328 z1328 st1328 hQ1328
      replace l1328 := l1328.symm
      replace y1328 : 3 = k1328 := y1328.symm
      replace z1328 : 19 = n1328 := z1328.symm
      subst l1328 y1328 z1328
      obtain ⟨rfl, M1328, e1328⟩ := hQ1328
      have N1328 := Fr.app N1325 M1328
      have pre1329 : ∀ t, Steps p.tables e below (T1328.setTop (mkF m 154 #[iv p0, iv p1, iv p2, iv p3, iv p4, iv p5, iv (3 : Int32), rv b840, iv (1 : Int32), iv p0, iv p5, iv p2, iv (1 : Int32)] [(.int p5)])) t → Steps p.tables e below (s₁.setTop (entryFrame m #[(.int p0), (.int p1), (.int p2), (.int p3), (.int p4), (.int p5)] maxLocals)) t := fun t kt => pre1327 _ (st1328.trans kt)
      have pre1330 : ∀ t, Steps p.tables e below (T1328.setTop (mkF m 180 #[iv p0, iv p1, iv p2, iv p3, iv p4, iv p5, iv (3 : Int32), rv b840, iv (1 : Int32), iv p0, iv p5, iv p2, iv (1 : Int32)] [(.int (2 : Int32)), (.ref b840)])) t → Steps p.tables e below (s₁.setTop (entryFrame m #[(.int p0), (.int p1), (.int p2), (.int p3), (.int p4), (.int p5)] maxLocals)) t := fun t kt => by
        refine pre1329 _ ?_
        show Steps p.tables e below (T1328.setTop (mkF m 154 #[iv p0, iv p1, iv p2, iv p3, iv p4, iv p5, iv (3 : Int32), rv b840, iv (1 : Int32), iv p0, iv p5, iv p2, iv (1 : Int32)] [(.int p5)])) _
        refine XS.iload X1328.here hx rfl (hb hby at_154) rfl ?_
        show Steps p.tables e below (T1328.setTop (mkF m 156 #[iv p0, iv p1, iv p2, iv p3, iv p4, iv p5, iv (3 : Int32), rv b840, iv (1 : Int32), iv p0, iv p5, iv p2, iv (1 : Int32)] [(.int p5), (.int p5)])) _
        refine XS.icmpNo X1328.here hx rfl (hb hby at_156) rfl (XT.ii_ne_f rfl) ?_
        show Steps p.tables e below (T1328.setTop (mkF m 159 #[iv p0, iv p1, iv p2, iv p3, iv p4, iv p5, iv (3 : Int32), rv b840, iv (1 : Int32), iv p0, iv p5, iv p2, iv (1 : Int32)] [])) _
        refine XS.iconst X1328.here hx rfl (hb hby at_159) ?_
        show Steps p.tables e below (T1328.setTop (mkF m 160 #[iv p0, iv p1, iv p2, iv p3, iv p4, iv p5, iv (3 : Int32), rv b840, iv (1 : Int32), iv p0, iv p5, iv p2, iv (1 : Int32)] [(.int (1 : Int32))])) _
        refine XS.goto X1328.here hx rfl (pc0 := 160) (pc' := 164) rfl (hb hby at_160) (by decide) (by decide) ?_
        show Steps p.tables e below (T1328.setTop (mkF m 164 #[iv p0, iv p1, iv p2, iv p3, iv p4, iv p5, iv (3 : Int32), rv b840, iv (1 : Int32), iv p0, iv p5, iv p2, iv (1 : Int32)] [(.int (1 : Int32))])) _
        refine XS.istore X1328.here hx rfl (hb hby at_164) rfl (l' := #[iv p0, iv p1, iv p2, iv p3, iv p4, iv p5, iv (3 : Int32), rv b840, iv (1 : Int32), iv p0, iv p5, iv p2, iv (1 : Int32)]) rfl ?_
        show Steps p.tables e below (T1328.setTop (mkF m 166 #[iv p0, iv p1, iv p2, iv p3, iv p4, iv p5, iv (3 : Int32), rv b840, iv (1 : Int32), iv p0, iv p5, iv p2, iv (1 : Int32)] [])) _
        refine XS.iload X1328.here hx rfl (hb hby at_166) rfl ?_
        show Steps p.tables e below (T1328.setTop (mkF m 168 #[iv p0, iv p1, iv p2, iv p3, iv p4, iv p5, iv (3 : Int32), rv b840, iv (1 : Int32), iv p0, iv p5, iv p2, iv (1 : Int32)] [(.int (3 : Int32))])) _
        refine XS.iconst X1328.here hx rfl (hb hby at_168) ?_
        show Steps p.tables e below (T1328.setTop (mkF m 169 #[iv p0, iv p1, iv p2, iv p3, iv p4, iv p5, iv (3 : Int32), rv b840, iv (1 : Int32), iv p0, iv p5, iv p2, iv (1 : Int32)] [(.int (3 : Int32)), (.int (3 : Int32))])) _
        refine XS.icmpNo X1328.here hx rfl (hb hby at_169) rfl (XT.ii_lt_f (by decide)) ?_
        show Steps p.tables e below (T1328.setTop (mkF m 172 #[iv p0, iv p1, iv p2, iv p3, iv p4, iv p5, iv (3 : Int32), rv b840, iv (1 : Int32), iv p0, iv p5, iv p2, iv (1 : Int32)] [])) _
        refine XS.iload X1328.here hx rfl (hb hby at_172) rfl ?_
        show Steps p.tables e below (T1328.setTop (mkF m 174 #[iv p0, iv p1, iv p2, iv p3, iv p4, iv p5, iv (3 : Int32), rv b840, iv (1 : Int32), iv p0, iv p5, iv p2, iv (1 : Int32)] [(.int (1 : Int32))])) _
        refine XS.ifNo X1328.here hx rfl (hb hby at_174) rfl (XT.i0_eq_f (by decide)) ?_
        show Steps p.tables e below (T1328.setTop (mkF m 177 #[iv p0, iv p1, iv p2, iv p3, iv p4, iv p5, iv (3 : Int32), rv b840, iv (1 : Int32), iv p0, iv p5, iv p2, iv (1 : Int32)] [])) _
        refine XS.aload X1328.here hx rfl (hb hby at_177) rfl rfl ?_
        show Steps p.tables e below (T1328.setTop (mkF m 179 #[iv p0, iv p1, iv p2, iv p3, iv p4, iv p5, iv (3 : Int32), rv b840, iv (1 : Int32), iv p0, iv p5, iv p2, iv (1 : Int32)] [(.ref b840)])) _
        refine XS.iconst X1328.here hx rfl (hb hby at_179) ?_
        exact kt
      obtain ⟨cq1331, kq1331, q1331a, q1331b, q1331c⟩ := isOf hZ e1328 F1318
      obtain ⟨_, _, ⟨T1331, L1331, k1331, n1331⟩, -, X1331, ⟨Lc1331, hQ1331, l1331, y1331, z1331⟩, st1331⟩ := X1328.virtualBack hx (y := (⟨"org/reachwatch/IntBlocks", "get", "(I)I"⟩ : MethodName)) (z := (⟨"org/reachwatch/IntBlocks", "get", "(I)I"⟩ : MethodName)) hown (mvT hZ (W 42 rfl)) (mvT hZ (W 43 rfl)) (notFace_of_selects (args := #[]) (mvT hZ (W 45 rfl))) (mvT hZ (W 45 rfl)) (mvT hZ (W 44 rfl)) (by decide) (backOf (W := 0) (rm_get8_5 l Z a0 hw [] b840 k51_846 b51_846 b221_849 p0 p5 p2 k221_849 h1255 n0 O1255 F1317 F1319 F1320 J1255_1) hZ (W 46 rfl) (W 3 rfl) (by decide) (by decide)) q1331a q1331c (g := (mkF m 180 #[iv p0, iv p1, iv p2, iv p3, iv p4, iv p5, iv (3 : Int32), rv b840, iv (1 : Int32), iv p0, iv p5, iv p2, iv (1 : Int32)] [(.int (2 : Int32)), (.ref b840)])) rfl (by rw [hml]; rfl) (Steps.refl _) (argsL := [(.int (2 : Int32))]) (rest := []) (lenOf pd_18 rfl) rfl (by show 2 * 0 + _ ≤ _; exact Nat.le_of_eq rfl) (hb hby at_180) (fun _ _ => ⟨rfl, e1328, (by decide : 3 + 0 ≤ _), (by decide : 19 + 0 ≤ _)⟩)
      dsimp only [Pt.U, Pt.locs, Pt.cells, Pt.slots] at X1331 l1331 y1331 z1331 st1331 hQ1331
      replace l1331 := l1331.symm
      replace y1331 : 3 = k1331 := y1331.symm
      replace z1331 : 19 = n1331 := z1331.symm
      subst l1331 y1331 z1331
      obtain ⟨rfl, M1331, e1331⟩ := hQ1331
      have N1331 := Fr.app N1328 M1331
      have pre1332 : ∀ t, Steps p.tables e below (T1331.setTop (mkF m 183 #[iv p0, iv p1, iv p2, iv p3, iv p4, iv p5, iv (3 : Int32), rv b840, iv (1 : Int32), iv p0, iv p5, iv p2, iv (1 : Int32)] [(.int p2)])) t → Steps p.tables e below (s₁.setTop (entryFrame m #[(.int p0), (.int p1), (.int p2), (.int p3), (.int p4), (.int p5)] maxLocals)) t := fun t kt => pre1330 _ (st1331.trans kt)
      have pre1333 : ∀ t, Steps p.tables e below (T1331.setTop (mkF m 197 #[iv p0, iv p1, iv p2, iv p3, iv p4, iv p5, iv (3 : Int32), rv b840, iv (1 : Int32), iv p0, iv p5, iv p2, iv (1 : Int32)] [(.int (1 : Int32))])) t → Steps p.tables e below (s₁.setTop (entryFrame m #[(.int p0), (.int p1), (.int p2), (.int p3), (.int p4), (.int p5)] maxLocals)) t := fun t kt => by
        refine pre1332 _ ?_
        show Steps p.tables e below (T1331.setTop (mkF m 183 #[iv p0, iv p1, iv p2, iv p3, iv p4, iv p5, iv (3 : Int32), rv b840, iv (1 : Int32), iv p0, iv p5, iv p2, iv (1 : Int32)] [(.int p2)])) _
        refine XS.iload X1331.here hx rfl (hb hby at_183) rfl ?_
        show Steps p.tables e below (T1331.setTop (mkF m 185 #[iv p0, iv p1, iv p2, iv p3, iv p4, iv p5, iv (3 : Int32), rv b840, iv (1 : Int32), iv p0, iv p5, iv p2, iv (1 : Int32)] [(.int p2), (.int p2)])) _
        refine XS.icmpNo X1331.here hx rfl (hb hby at_185) rfl (XT.ii_ne_f rfl) ?_
        show Steps p.tables e below (T1331.setTop (mkF m 188 #[iv p0, iv p1, iv p2, iv p3, iv p4, iv p5, iv (3 : Int32), rv b840, iv (1 : Int32), iv p0, iv p5, iv p2, iv (1 : Int32)] [])) _
        refine XS.iconst X1331.here hx rfl (hb hby at_188) ?_
        show Steps p.tables e below (T1331.setTop (mkF m 189 #[iv p0, iv p1, iv p2, iv p3, iv p4, iv p5, iv (3 : Int32), rv b840, iv (1 : Int32), iv p0, iv p5, iv p2, iv (1 : Int32)] [(.int (1 : Int32))])) _
        refine XS.goto X1331.here hx rfl (pc0 := 189) (pc' := 193) rfl (hb hby at_189) (by decide) (by decide) ?_
        show Steps p.tables e below (T1331.setTop (mkF m 193 #[iv p0, iv p1, iv p2, iv p3, iv p4, iv p5, iv (3 : Int32), rv b840, iv (1 : Int32), iv p0, iv p5, iv p2, iv (1 : Int32)] [(.int (1 : Int32))])) _
        refine XS.istore X1331.here hx rfl (hb hby at_193) rfl (l' := #[iv p0, iv p1, iv p2, iv p3, iv p4, iv p5, iv (3 : Int32), rv b840, iv (1 : Int32), iv p0, iv p5, iv p2, iv (1 : Int32)]) rfl ?_
        show Steps p.tables e below (T1331.setTop (mkF m 195 #[iv p0, iv p1, iv p2, iv p3, iv p4, iv p5, iv (3 : Int32), rv b840, iv (1 : Int32), iv p0, iv p5, iv p2, iv (1 : Int32)] [])) _
        refine XS.iload X1331.here hx rfl (hb hby at_195) rfl ?_
        exact kt
      obtain ⟨fs, hr, hrun, hended, hW, hsame⟩ := X1331.leave (v := some (.int (1 : Int32))) (fun h => by rw [Bd.returns] at h; cases h)
      refine ⟨_, _, pre1333 _ (retN X1331 hx (t := .boolean) Bd.returns (by simp) (hb hby at_197) hr), hrun, hended, _, _, rfl, ?_, ⟨_, rfl⟩, hW, hsame.mono (by decide) (by decide)⟩
      show Q_law Z p0 p1 p2 p3 p4 p5 h0 n0 _ T1331.heap _
      rw [e1331]
      exact ⟨rfl, N1331⟩
    · rw [hv1011] at pre1010
      have pre1334 : ∀ t, Steps p.tables e below (T857.setTop (mkF m 65 #[iv p0, iv p1, iv p2, iv p3, iv p4, iv p5, iv (3 : Int32), rv b840, iv (2 : Int32), .unset, .unset, .unset, .unset] [(.int p5), (.int (2 : Int32)), (.ref b840)])) t → Steps p.tables e below (s₁.setTop (entryFrame m #[(.int p0), (.int p1), (.int p2), (.int p3), (.int p4), (.int p5)] maxLocals)) t := fun t kt => by
        refine pre1010 _ ?_
        show Steps p.tables e below (T857.setTop (mkF m 57 #[iv p0, iv p1, iv p2, iv p3, iv p4, iv p5, iv (3 : Int32), rv b840, .unset, .unset, .unset, .unset, .unset] [(.int (2 : Int32))])) _
        refine XS.istore X857.here hx rfl (hb hby at_57) rfl (l' := #[iv p0, iv p1, iv p2, iv p3, iv p4, iv p5, iv (3 : Int32), rv b840, iv (2 : Int32), .unset, .unset, .unset, .unset]) rfl ?_
        show Steps p.tables e below (T857.setTop (mkF m 59 #[iv p0, iv p1, iv p2, iv p3, iv p4, iv p5, iv (3 : Int32), rv b840, iv (2 : Int32), .unset, .unset, .unset, .unset] [])) _
        refine XS.aload X857.here hx rfl (hb hby at_59) rfl rfl ?_
        show Steps p.tables e below (T857.setTop (mkF m 61 #[iv p0, iv p1, iv p2, iv p3, iv p4, iv p5, iv (3 : Int32), rv b840, iv (2 : Int32), .unset, .unset, .unset, .unset] [(.ref b840)])) _
        refine XS.iload X857.here hx rfl (hb hby at_61) rfl ?_
        show Steps p.tables e below (T857.setTop (mkF m 63 #[iv p0, iv p1, iv p2, iv p3, iv p4, iv p5, iv (3 : Int32), rv b840, iv (2 : Int32), .unset, .unset, .unset, .unset] [(.int (2 : Int32)), (.ref b840)])) _
        refine XS.iload X857.here hx rfl (hb hby at_63) rfl ?_
        exact kt
      obtain ⟨cq1335, kq1335, q1335a, q1335b, q1335c⟩ := isOf hZ e857 J857_0
      obtain ⟨_, _, ⟨T1335, L1335, k1335, n1335⟩, -, X1335, ⟨Lc1335, hQ1335, l1335, y1335, z1335⟩, st1335⟩ := X857.virtualBack hx (y := (⟨"org/reachwatch/IntBlocks", "set", "(II)V"⟩ : MethodName)) (z := (⟨"org/reachwatch/IntBlocks", "set", "(II)V"⟩ : MethodName)) hown (mvT hZ (W 24 rfl)) (mvT hZ (W 25 rfl)) (notFace_of_selects (args := #[]) (mvT hZ (W 27 rfl))) (mvT hZ (W 27 rfl)) (mvT hZ (W 26 rfl)) (by decide) (backOf (W := 0) (rm_set4_5 l Z a0 hw [] b840 p5 k51_846 b51_846 b221_849 p0 p1 p2 k221_849 h857 n0 O857 g_b221_849 F1009 J857_1 J857_2 J857_3 J857_4 (fun q => ne_b840_b221_849 q.symm) (fun q => ne_b51_846_b221_849 q.symm)) hZ (W 28 rfl) (W 3 rfl) (by decide) (by decide)) q1335a q1335c (g := (mkF m 65 #[iv p0, iv p1, iv p2, iv p3, iv p4, iv p5, iv (3 : Int32), rv b840, iv (2 : Int32), .unset, .unset, .unset, .unset] [(.int p5), (.int (2 : Int32)), (.ref b840)])) rfl (by rw [hml]; rfl) (Steps.refl _) (argsL := [(.int (2 : Int32)), (.int p5)]) (rest := []) (lenOf pd_14 rfl) rfl (by show 2 * 0 + _ ≤ _; exact Nat.le_of_eq rfl) (hb hby at_65) (fun _ _ => ⟨rfl, e857, (by decide : 3 + 0 ≤ _), (by decide : 19 + 0 ≤ _)⟩)
      dsimp only [Pt.U, Pt.locs, Pt.cells, Pt.slots] at X1335 l1335 y1335 z1335 st1335 hQ1335
      replace l1335 := l1335.symm
      replace y1335 : 3 = k1335 := y1335.symm
      replace z1335 : 19 = n1335 := z1335.symm
      subst l1335 y1335 z1335
      obtain ⟨rfl, M1335, Kc1335, O1335, J1335_0, J1335_1⟩ := hQ1335
      obtain ⟨h1335, e1335⟩ : ∃ z, T1335.heap = z := ⟨_, rfl⟩
      rw [e1335] at Kc1335 O1335 J1335_0 J1335_1
      have N1335 := Fr.app N857 M1335
      have K1335 : Keep h0 h1335 [] := K857.trans Kc1335 (own_all1 (Or.inr sz_b221_849))
      have pre1395 : ∀ t, Steps p.tables e below (T1335.setTop (mkF m 68 #[iv p0, iv p1, iv p2, iv p3, iv p4, iv p5, iv (3 : Int32), rv b840, iv (2 : Int32), .unset, .unset, .unset, .unset] [])) t → Steps p.tables e below (s₁.setTop (entryFrame m #[(.int p0), (.int p1), (.int p2), (.int p3), (.int p4), (.int p5)] maxLocals)) t := fun t kt => pre1334 _ (st1335.trans kt)
      have F1396 := F1008.keep Kc1335
      have F1397 := F1009.keep Kc1335 (own_nm1 ne_b51_846_b221_849)
      have F1398 := J857_0.keep Kc1335
      have F1399 := J857_1.keep Kc1335 (own_nm1 ne_b840_b221_849)
      have F1400 := J857_4.keep Kc1335 (own_nm1 ne_b840_b221_849)
      have pre1401 : ∀ t, Steps p.tables e below (T1335.setTop (mkF m 111 #[iv p0, iv p1, iv p2, iv p3, iv p4, iv p5, iv (3 : Int32), rv b840, iv (2 : Int32), iv p0, iv p1, iv p5, .unset] [(.ref b840)])) t → Steps p.tables e below (s₁.setTop (entryFrame m #[(.int p0), (.int p1), (.int p2), (.int p3), (.int p4), (.int p5)] maxLocals)) t := fun t kt => by
        refine pre1395 _ ?_
        show Steps p.tables e below (T1335.setTop (mkF m 68 #[iv p0, iv p1, iv p2, iv p3, iv p4, iv p5, iv (3 : Int32), rv b840, iv (2 : Int32), .unset, .unset, .unset, .unset] [])) _
        refine XS.iload X1335.here hx rfl (hb hby at_68) rfl ?_
        show Steps p.tables e below (T1335.setTop (mkF m 70 #[iv p0, iv p1, iv p2, iv p3, iv p4, iv p5, iv (3 : Int32), rv b840, iv (2 : Int32), .unset, .unset, .unset, .unset] [(.int (2 : Int32))])) _
        refine XS.ifYes X1335.here hx rfl (pc0 := 70) (pc' := 78) rfl (hb hby at_70) rfl (XT.i0_ne_t (by decide)) (by decide) (by decide) ?_
        show Steps p.tables e below (T1335.setTop (mkF m 78 #[iv p0, iv p1, iv p2, iv p3, iv p4, iv p5, iv (3 : Int32), rv b840, iv (2 : Int32), .unset, .unset, .unset, .unset] [])) _
        refine XS.iloadN X1335.here hx rfl (hb hby at_78) rfl ?_
        show Steps p.tables e below (T1335.setTop (mkF m 79 #[iv p0, iv p1, iv p2, iv p3, iv p4, iv p5, iv (3 : Int32), rv b840, iv (2 : Int32), .unset, .unset, .unset, .unset] [(.int p0)])) _
        refine XS.istore X1335.here hx rfl (hb hby at_79) rfl (l' := #[iv p0, iv p1, iv p2, iv p3, iv p4, iv p5, iv (3 : Int32), rv b840, iv (2 : Int32), iv p0, .unset, .unset, .unset]) rfl ?_
        show Steps p.tables e below (T1335.setTop (mkF m 81 #[iv p0, iv p1, iv p2, iv p3, iv p4, iv p5, iv (3 : Int32), rv b840, iv (2 : Int32), iv p0, .unset, .unset, .unset] [])) _
        refine XS.iload X1335.here hx rfl (hb hby at_81) rfl ?_
        show Steps p.tables e below (T1335.setTop (mkF m 83 #[iv p0, iv p1, iv p2, iv p3, iv p4, iv p5, iv (3 : Int32), rv b840, iv (2 : Int32), iv p0, .unset, .unset, .unset] [(.int (2 : Int32))])) _
        refine XS.iconst X1335.here hx rfl (hb hby at_83) ?_
        show Steps p.tables e below (T1335.setTop (mkF m 84 #[iv p0, iv p1, iv p2, iv p3, iv p4, iv p5, iv (3 : Int32), rv b840, iv (2 : Int32), iv p0, .unset, .unset, .unset] [(.int (1 : Int32)), (.int (2 : Int32))])) _
        refine XS.icmpYes X1335.here hx rfl (pc0 := 84) (pc' := 92) rfl (hb hby at_84) rfl (XT.ii_ne_t (by decide)) (by decide) (by decide) ?_
        show Steps p.tables e below (T1335.setTop (mkF m 92 #[iv p0, iv p1, iv p2, iv p3, iv p4, iv p5, iv (3 : Int32), rv b840, iv (2 : Int32), iv p0, .unset, .unset, .unset] [])) _
        refine XS.iloadN X1335.here hx rfl (hb hby at_92) rfl ?_
        show Steps p.tables e below (T1335.setTop (mkF m 93 #[iv p0, iv p1, iv p2, iv p3, iv p4, iv p5, iv (3 : Int32), rv b840, iv (2 : Int32), iv p0, .unset, .unset, .unset] [(.int p1)])) _
        refine XS.istore X1335.here hx rfl (hb hby at_93) rfl (l' := #[iv p0, iv p1, iv p2, iv p3, iv p4, iv p5, iv (3 : Int32), rv b840, iv (2 : Int32), iv p0, iv p1, .unset, .unset]) rfl ?_
        show Steps p.tables e below (T1335.setTop (mkF m 95 #[iv p0, iv p1, iv p2, iv p3, iv p4, iv p5, iv (3 : Int32), rv b840, iv (2 : Int32), iv p0, iv p1, .unset, .unset] [])) _
        refine XS.iload X1335.here hx rfl (hb hby at_95) rfl ?_
        show Steps p.tables e below (T1335.setTop (mkF m 97 #[iv p0, iv p1, iv p2, iv p3, iv p4, iv p5, iv (3 : Int32), rv b840, iv (2 : Int32), iv p0, iv p1, .unset, .unset] [(.int (2 : Int32))])) _
        refine XS.iconst X1335.here hx rfl (hb hby at_97) ?_
        show Steps p.tables e below (T1335.setTop (mkF m 98 #[iv p0, iv p1, iv p2, iv p3, iv p4, iv p5, iv (3 : Int32), rv b840, iv (2 : Int32), iv p0, iv p1, .unset, .unset] [(.int (2 : Int32)), (.int (2 : Int32))])) _
        refine XS.icmpNo X1335.here hx rfl (hb hby at_98) rfl (XT.ii_ne_f (by decide)) ?_
        show Steps p.tables e below (T1335.setTop (mkF m 101 #[iv p0, iv p1, iv p2, iv p3, iv p4, iv p5, iv (3 : Int32), rv b840, iv (2 : Int32), iv p0, iv p1, .unset, .unset] [])) _
        refine XS.iload X1335.here hx rfl (hb hby at_101) rfl ?_
        show Steps p.tables e below (T1335.setTop (mkF m 103 #[iv p0, iv p1, iv p2, iv p3, iv p4, iv p5, iv (3 : Int32), rv b840, iv (2 : Int32), iv p0, iv p1, .unset, .unset] [(.int p5)])) _
        refine XS.goto X1335.here hx rfl (pc0 := 103) (pc' := 107) rfl (hb hby at_103) (by decide) (by decide) ?_
        show Steps p.tables e below (T1335.setTop (mkF m 107 #[iv p0, iv p1, iv p2, iv p3, iv p4, iv p5, iv (3 : Int32), rv b840, iv (2 : Int32), iv p0, iv p1, .unset, .unset] [(.int p5)])) _
        refine XS.istore X1335.here hx rfl (hb hby at_107) rfl (l' := #[iv p0, iv p1, iv p2, iv p3, iv p4, iv p5, iv (3 : Int32), rv b840, iv (2 : Int32), iv p0, iv p1, iv p5, .unset]) rfl ?_
        show Steps p.tables e below (T1335.setTop (mkF m 109 #[iv p0, iv p1, iv p2, iv p3, iv p4, iv p5, iv (3 : Int32), rv b840, iv (2 : Int32), iv p0, iv p1, iv p5, .unset] [])) _
        refine XS.aload X1335.here hx rfl (hb hby at_109) rfl rfl ?_
        exact kt
      obtain ⟨cq1402, kq1402, q1402a, q1402b, q1402c⟩ := isOf hZ e1335 F1398
      obtain ⟨_, _, ⟨T1402, L1402, k1402, n1402⟩, -, X1402, ⟨Lc1402, hQ1402, l1402, y1402, z1402⟩, st1402⟩ := X1335.virtualBack hx (y := (⟨"org/reachwatch/IntBlocks", "size", "()I"⟩ : MethodName)) (z := (⟨"org/reachwatch/IntBlocks", "size", "()I"⟩ : MethodName)) hown (mvT hZ (W 37 rfl)) (mvT hZ (W 38 rfl)) (notFace_of_selects (args := #[]) (mvT hZ (W 40 rfl))) (mvT hZ (W 40 rfl)) (mvT hZ (W 39 rfl)) (by decide) (backOf (W := 0) (rm_size7_2 l Z a0 hw [] b840 h1335 n0 O1335 F1400) hZ (W 41 rfl) (W 3 rfl) (by decide) (by decide)) q1402a q1402c (g := (mkF m 111 #[iv p0, iv p1, iv p2, iv p3, iv p4, iv p5, iv (3 : Int32), rv b840, iv (2 : Int32), iv p0, iv p1, iv p5, .unset] [(.ref b840)])) rfl (by rw [hml]; rfl) (Steps.refl _) (argsL := []) (rest := []) (lenOf pd_16 rfl) rfl (by show 2 * 0 + _ ≤ _; exact Nat.le_of_eq rfl) (hb hby at_111) (fun _ _ => ⟨rfl, e1335, (by decide : 3 + 0 ≤ _), (by decide : 19 + 0 ≤ _)⟩)
      dsimp only [Pt.U, Pt.locs, Pt.cells, Pt.slots] at X1402 l1402 y1402 z1402 st1402 hQ1402
      replace l1402 := l1402.symm
      replace y1402 : 3 = k1402 := y1402.symm
      replace z1402 : 19 = n1402 := z1402.symm
      subst l1402 y1402 z1402
      obtain ⟨rfl, M1402, e1402⟩ := hQ1402
      have N1402 := Fr.app N1335 M1402
      have pre1403 : ∀ t, Steps p.tables e below (T1402.setTop (mkF m 114 #[iv p0, iv p1, iv p2, iv p3, iv p4, iv p5, iv (3 : Int32), rv b840, iv (2 : Int32), iv p0, iv p1, iv p5, .unset] [(.int (3 : Int32))])) t → Steps p.tables e below (s₁.setTop (entryFrame m #[(.int p0), (.int p1), (.int p2), (.int p3), (.int p4), (.int p5)] maxLocals)) t := fun t kt => pre1401 _ (st1402.trans kt)
      have pre1404 : ∀ t, Steps p.tables e below (T1402.setTop (mkF m 122 #[iv p0, iv p1, iv p2, iv p3, iv p4, iv p5, iv (3 : Int32), rv b840, iv (2 : Int32), iv p0, iv p1, iv p5, .unset] [(.int (0 : Int32)), (.ref b840)])) t → Steps p.tables e below (s₁.setTop (entryFrame m #[(.int p0), (.int p1), (.int p2), (.int p3), (.int p4), (.int p5)] maxLocals)) t := fun t kt => by
        refine pre1403 _ ?_
        show Steps p.tables e below (T1402.setTop (mkF m 114 #[iv p0, iv p1, iv p2, iv p3, iv p4, iv p5, iv (3 : Int32), rv b840, iv (2 : Int32), iv p0, iv p1, iv p5, .unset] [(.int (3 : Int32))])) _
        refine XS.iload X1402.here hx rfl (hb hby at_114) rfl ?_
        show Steps p.tables e below (T1402.setTop (mkF m 116 #[iv p0, iv p1, iv p2, iv p3, iv p4, iv p5, iv (3 : Int32), rv b840, iv (2 : Int32), iv p0, iv p1, iv p5, .unset] [(.int (3 : Int32)), (.int (3 : Int32))])) _
        refine XS.icmpNo X1402.here hx rfl (hb hby at_116) rfl (XT.ii_ne_f (by decide)) ?_
        show Steps p.tables e below (T1402.setTop (mkF m 119 #[iv p0, iv p1, iv p2, iv p3, iv p4, iv p5, iv (3 : Int32), rv b840, iv (2 : Int32), iv p0, iv p1, iv p5, .unset] [])) _
        refine XS.aload X1402.here hx rfl (hb hby at_119) rfl rfl ?_
        show Steps p.tables e below (T1402.setTop (mkF m 121 #[iv p0, iv p1, iv p2, iv p3, iv p4, iv p5, iv (3 : Int32), rv b840, iv (2 : Int32), iv p0, iv p1, iv p5, .unset] [(.ref b840)])) _
        refine XS.iconst X1402.here hx rfl (hb hby at_121) ?_
        exact kt
      obtain ⟨cq1405, kq1405, q1405a, q1405b, q1405c⟩ := isOf hZ e1402 F1398
      obtain ⟨_, _, ⟨T1405, L1405, k1405, n1405⟩, -, X1405, ⟨Lc1405, hQ1405, l1405, y1405, z1405⟩, st1405⟩ := X1402.virtualBack hx (y := (⟨"org/reachwatch/IntBlocks", "get", "(I)I"⟩ : MethodName)) (z := (⟨"org/reachwatch/IntBlocks", "get", "(I)I"⟩ : MethodName)) hown (mvT hZ (W 42 rfl)) (mvT hZ (W 43 rfl)) (notFace_of_selects (args := #[]) (mvT hZ (W 45 rfl))) (mvT hZ (W 45 rfl)) (mvT hZ (W 44 rfl)) (by decide) (backOf (W := 0) (rm_get8_3 l Z a0 hw [] b840 k51_846 b51_846 b221_849 p0 p1 p5 k221_849 h1335 n0 O1335 F1397 F1399 F1400 J1335_1) hZ (W 46 rfl) (W 3 rfl) (by decide) (by decide)) q1405a q1405c (g := (mkF m 122 #[iv p0, iv p1, iv p2, iv p3, iv p4, iv p5, iv (3 : Int32), rv b840, iv (2 : Int32), iv p0, iv p1, iv p5, .unset] [(.int (0 : Int32)), (.ref b840)])) rfl (by rw [hml]; rfl) (Steps.refl _) (argsL := [(.int (0 : Int32))]) (rest := []) (lenOf pd_18 rfl) rfl (by show 2 * 0 + _ ≤ _; exact Nat.le_of_eq rfl) (hb hby at_122) (fun _ _ => ⟨rfl, e1402, (by decide : 3 + 0 ≤ _), (by decide : 19 + 0 ≤ _)⟩)
      dsimp only [Pt.U, Pt.locs, Pt.cells, Pt.slots] at X1405 l1405 y1405 z1405 st1405 hQ1405
      replace l1405 := l1405.symm
      replace y1405 : 3 = k1405 := y1405.symm
      replace z1405 : 19 = n1405 := z1405.symm
      subst l1405 y1405 z1405
      obtain ⟨rfl, M1405, e1405⟩ := hQ1405
      have N1405 := Fr.app N1402 M1405
      have pre1406 : ∀ t, Steps p.tables e below (T1405.setTop (mkF m 125 #[iv p0, iv p1, iv p2, iv p3, iv p4, iv p5, iv (3 : Int32), rv b840, iv (2 : Int32), iv p0, iv p1, iv p5, .unset] [(.int p0)])) t → Steps p.tables e below (s₁.setTop (entryFrame m #[(.int p0), (.int p1), (.int p2), (.int p3), (.int p4), (.int p5)] maxLocals)) t := fun t kt => pre1404 _ (st1405.trans kt)
      have pre1407 : ∀ t, Steps p.tables e below (T1405.setTop (mkF m 151 #[iv p0, iv p1, iv p2, iv p3, iv p4, iv p5, iv (3 : Int32), rv b840, iv (2 : Int32), iv p0, iv p1, iv p5, iv (1 : Int32)] [(.int (1 : Int32)), (.ref b840)])) t → Steps p.tables e below (s₁.setTop (entryFrame m #[(.int p0), (.int p1), (.int p2), (.int p3), (.int p4), (.int p5)] maxLocals)) t := fun t kt => by
        refine pre1406 _ ?_
        show Steps p.tables e below (T1405.setTop (mkF m 125 #[iv p0, iv p1, iv p2, iv p3, iv p4, iv p5, iv (3 : Int32), rv b840, iv (2 : Int32), iv p0, iv p1, iv p5, .unset] [(.int p0)])) _
        refine XS.iload X1405.here hx rfl (hb hby at_125) rfl ?_
        show Steps p.tables e below (T1405.setTop (mkF m 127 #[iv p0, iv p1, iv p2, iv p3, iv p4, iv p5, iv (3 : Int32), rv b840, iv (2 : Int32), iv p0, iv p1, iv p5, .unset] [(.int p0), (.int p0)])) _
        refine XS.icmpNo X1405.here hx rfl (hb hby at_127) rfl (XT.ii_ne_f rfl) ?_
        show Steps p.tables e below (T1405.setTop (mkF m 130 #[iv p0, iv p1, iv p2, iv p3, iv p4, iv p5, iv (3 : Int32), rv b840, iv (2 : Int32), iv p0, iv p1, iv p5, .unset] [])) _
        refine XS.iconst X1405.here hx rfl (hb hby at_130) ?_
        show Steps p.tables e below (T1405.setTop (mkF m 131 #[iv p0, iv p1, iv p2, iv p3, iv p4, iv p5, iv (3 : Int32), rv b840, iv (2 : Int32), iv p0, iv p1, iv p5, .unset] [(.int (1 : Int32))])) _
        refine XS.goto X1405.here hx rfl (pc0 := 131) (pc' := 135) rfl (hb hby at_131) (by decide) (by decide) ?_
        show Steps p.tables e below (T1405.setTop (mkF m 135 #[iv p0, iv p1, iv p2, iv p3, iv p4, iv p5, iv (3 : Int32), rv b840, iv (2 : Int32), iv p0, iv p1, iv p5, .unset] [(.int (1 : Int32))])) _
        refine XS.istore X1405.here hx rfl (hb hby at_135) rfl (l' := #[iv p0, iv p1, iv p2, iv p3, iv p4, iv p5, iv (3 : Int32), rv b840, iv (2 : Int32), iv p0, iv p1, iv p5, iv (1 : Int32)]) rfl ?_
        show Steps p.tables e below (T1405.setTop (mkF m 137 #[iv p0, iv p1, iv p2, iv p3, iv p4, iv p5, iv (3 : Int32), rv b840, iv (2 : Int32), iv p0, iv p1, iv p5, iv (1 : Int32)] [])) _
        refine XS.iload X1405.here hx rfl (hb hby at_137) rfl ?_
        show Steps p.tables e below (T1405.setTop (mkF m 139 #[iv p0, iv p1, iv p2, iv p3, iv p4, iv p5, iv (3 : Int32), rv b840, iv (2 : Int32), iv p0, iv p1, iv p5, iv (1 : Int32)] [(.int (3 : Int32))])) _
        refine XS.iconst X1405.here hx rfl (hb hby at_139) ?_
        show Steps p.tables e below (T1405.setTop (mkF m 140 #[iv p0, iv p1, iv p2, iv p3, iv p4, iv p5, iv (3 : Int32), rv b840, iv (2 : Int32), iv p0, iv p1, iv p5, iv (1 : Int32)] [(.int (2 : Int32)), (.int (3 : Int32))])) _
        refine XS.icmpNo X1405.here hx rfl (hb hby at_140) rfl (XT.ii_lt_f (by decide)) ?_
        show Steps p.tables e below (T1405.setTop (mkF m 143 #[iv p0, iv p1, iv p2, iv p3, iv p4, iv p5, iv (3 : Int32), rv b840, iv (2 : Int32), iv p0, iv p1, iv p5, iv (1 : Int32)] [])) _
        refine XS.iload X1405.here hx rfl (hb hby at_143) rfl ?_
        show Steps p.tables e below (T1405.setTop (mkF m 145 #[iv p0, iv p1, iv p2, iv p3, iv p4, iv p5, iv (3 : Int32), rv b840, iv (2 : Int32), iv p0, iv p1, iv p5, iv (1 : Int32)] [(.int (1 : Int32))])) _
        refine XS.ifNo X1405.here hx rfl (hb hby at_145) rfl (XT.i0_eq_f (by decide)) ?_
        show Steps p.tables e below (T1405.setTop (mkF m 148 #[iv p0, iv p1, iv p2, iv p3, iv p4, iv p5, iv (3 : Int32), rv b840, iv (2 : Int32), iv p0, iv p1, iv p5, iv (1 : Int32)] [])) _
        refine XS.aload X1405.here hx rfl (hb hby at_148) rfl rfl ?_
        show Steps p.tables e below (T1405.setTop (mkF m 150 #[iv p0, iv p1, iv p2, iv p3, iv p4, iv p5, iv (3 : Int32), rv b840, iv (2 : Int32), iv p0, iv p1, iv p5, iv (1 : Int32)] [(.ref b840)])) _
        refine XS.iconst X1405.here hx rfl (hb hby at_150) ?_
        exact kt
      obtain ⟨cq1408, kq1408, q1408a, q1408b, q1408c⟩ := isOf hZ e1405 F1398
      obtain ⟨_, _, ⟨T1408, L1408, k1408, n1408⟩, -, X1408, ⟨Lc1408, hQ1408, l1408, y1408, z1408⟩, st1408⟩ := X1405.virtualBack hx (y := (⟨"org/reachwatch/IntBlocks", "get", "(I)I"⟩ : MethodName)) (z := (⟨"org/reachwatch/IntBlocks", "get", "(I)I"⟩ : MethodName)) hown (mvT hZ (W 42 rfl)) (mvT hZ (W 43 rfl)) (notFace_of_selects (args := #[]) (mvT hZ (W 45 rfl))) (mvT hZ (W 45 rfl)) (mvT hZ (W 44 rfl)) (by decide) (backOf (W := 0) (rm_get8_4 l Z a0 hw [] b840 k51_846 b51_846 b221_849 p0 p1 p5 k221_849 h1335 n0 O1335 F1397 F1399 F1400 J1335_1) hZ (W 46 rfl) (W 3 rfl) (by decide) (by decide)) q1408a q1408c (g := (mkF m 151 #[iv p0, iv p1, iv p2, iv p3, iv p4, iv p5, iv (3 : Int32), rv b840, iv (2 : Int32), iv p0, iv p1, iv p5, iv (1 : Int32)] [(.int (1 : Int32)), (.ref b840)])) rfl (by rw [hml]; rfl) (Steps.refl _) (argsL := [(.int (1 : Int32))]) (rest := []) (lenOf pd_18 rfl) rfl (by show 2 * 0 + _ ≤ _; exact Nat.le_of_eq rfl) (hb hby at_151) (fun _ _ => ⟨rfl, e1405, (by decide : 3 + 0 ≤ _), (by decide : 19 + 0 ≤ _)⟩)
      dsimp only [Pt.U, Pt.locs, Pt.cells, Pt.slots] at X1408 l1408 y1408 z1408 st1408 hQ1408
      replace l1408 := l1408.symm
      replace y1408 : 3 = k1408 := y1408.symm
      replace z1408 : 19 = n1408 := z1408.symm
      subst l1408 y1408 z1408
      obtain ⟨rfl, M1408, e1408⟩ := hQ1408
      have N1408 := Fr.app N1405 M1408
      have pre1409 : ∀ t, Steps p.tables e below (T1408.setTop (mkF m 154 #[iv p0, iv p1, iv p2, iv p3, iv p4, iv p5, iv (3 : Int32), rv b840, iv (2 : Int32), iv p0, iv p1, iv p5, iv (1 : Int32)] [(.int p1)])) t → Steps p.tables e below (s₁.setTop (entryFrame m #[(.int p0), (.int p1), (.int p2), (.int p3), (.int p4), (.int p5)] maxLocals)) t := fun t kt => pre1407 _ (st1408.trans kt)
      have pre1410 : ∀ t, Steps p.tables e below (T1408.setTop (mkF m 180 #[iv p0, iv p1, iv p2, iv p3, iv p4, iv p5, iv (3 : Int32), rv b840, iv (2 : Int32), iv p0, iv p1, iv p5, iv (1 : Int32)] [(.int (2 : Int32)), (.ref b840)])) t → Steps p.tables e below (s₁.setTop (entryFrame m #[(.int p0), (.int p1), (.int p2), (.int p3), (.int p4), (.int p5)] maxLocals)) t := fun t kt => by
        refine pre1409 _ ?_
        show Steps p.tables e below (T1408.setTop (mkF m 154 #[iv p0, iv p1, iv p2, iv p3, iv p4, iv p5, iv (3 : Int32), rv b840, iv (2 : Int32), iv p0, iv p1, iv p5, iv (1 : Int32)] [(.int p1)])) _
        refine XS.iload X1408.here hx rfl (hb hby at_154) rfl ?_
        show Steps p.tables e below (T1408.setTop (mkF m 156 #[iv p0, iv p1, iv p2, iv p3, iv p4, iv p5, iv (3 : Int32), rv b840, iv (2 : Int32), iv p0, iv p1, iv p5, iv (1 : Int32)] [(.int p1), (.int p1)])) _
        refine XS.icmpNo X1408.here hx rfl (hb hby at_156) rfl (XT.ii_ne_f rfl) ?_
        show Steps p.tables e below (T1408.setTop (mkF m 159 #[iv p0, iv p1, iv p2, iv p3, iv p4, iv p5, iv (3 : Int32), rv b840, iv (2 : Int32), iv p0, iv p1, iv p5, iv (1 : Int32)] [])) _
        refine XS.iconst X1408.here hx rfl (hb hby at_159) ?_
        show Steps p.tables e below (T1408.setTop (mkF m 160 #[iv p0, iv p1, iv p2, iv p3, iv p4, iv p5, iv (3 : Int32), rv b840, iv (2 : Int32), iv p0, iv p1, iv p5, iv (1 : Int32)] [(.int (1 : Int32))])) _
        refine XS.goto X1408.here hx rfl (pc0 := 160) (pc' := 164) rfl (hb hby at_160) (by decide) (by decide) ?_
        show Steps p.tables e below (T1408.setTop (mkF m 164 #[iv p0, iv p1, iv p2, iv p3, iv p4, iv p5, iv (3 : Int32), rv b840, iv (2 : Int32), iv p0, iv p1, iv p5, iv (1 : Int32)] [(.int (1 : Int32))])) _
        refine XS.istore X1408.here hx rfl (hb hby at_164) rfl (l' := #[iv p0, iv p1, iv p2, iv p3, iv p4, iv p5, iv (3 : Int32), rv b840, iv (2 : Int32), iv p0, iv p1, iv p5, iv (1 : Int32)]) rfl ?_
        show Steps p.tables e below (T1408.setTop (mkF m 166 #[iv p0, iv p1, iv p2, iv p3, iv p4, iv p5, iv (3 : Int32), rv b840, iv (2 : Int32), iv p0, iv p1, iv p5, iv (1 : Int32)] [])) _
        refine XS.iload X1408.here hx rfl (hb hby at_166) rfl ?_
        show Steps p.tables e below (T1408.setTop (mkF m 168 #[iv p0, iv p1, iv p2, iv p3, iv p4, iv p5, iv (3 : Int32), rv b840, iv (2 : Int32), iv p0, iv p1, iv p5, iv (1 : Int32)] [(.int (3 : Int32))])) _
        refine XS.iconst X1408.here hx rfl (hb hby at_168) ?_
        show Steps p.tables e below (T1408.setTop (mkF m 169 #[iv p0, iv p1, iv p2, iv p3, iv p4, iv p5, iv (3 : Int32), rv b840, iv (2 : Int32), iv p0, iv p1, iv p5, iv (1 : Int32)] [(.int (3 : Int32)), (.int (3 : Int32))])) _
        refine XS.icmpNo X1408.here hx rfl (hb hby at_169) rfl (XT.ii_lt_f (by decide)) ?_
        show Steps p.tables e below (T1408.setTop (mkF m 172 #[iv p0, iv p1, iv p2, iv p3, iv p4, iv p5, iv (3 : Int32), rv b840, iv (2 : Int32), iv p0, iv p1, iv p5, iv (1 : Int32)] [])) _
        refine XS.iload X1408.here hx rfl (hb hby at_172) rfl ?_
        show Steps p.tables e below (T1408.setTop (mkF m 174 #[iv p0, iv p1, iv p2, iv p3, iv p4, iv p5, iv (3 : Int32), rv b840, iv (2 : Int32), iv p0, iv p1, iv p5, iv (1 : Int32)] [(.int (1 : Int32))])) _
        refine XS.ifNo X1408.here hx rfl (hb hby at_174) rfl (XT.i0_eq_f (by decide)) ?_
        show Steps p.tables e below (T1408.setTop (mkF m 177 #[iv p0, iv p1, iv p2, iv p3, iv p4, iv p5, iv (3 : Int32), rv b840, iv (2 : Int32), iv p0, iv p1, iv p5, iv (1 : Int32)] [])) _
        refine XS.aload X1408.here hx rfl (hb hby at_177) rfl rfl ?_
        show Steps p.tables e below (T1408.setTop (mkF m 179 #[iv p0, iv p1, iv p2, iv p3, iv p4, iv p5, iv (3 : Int32), rv b840, iv (2 : Int32), iv p0, iv p1, iv p5, iv (1 : Int32)] [(.ref b840)])) _
        refine XS.iconst X1408.here hx rfl (hb hby at_179) ?_
        exact kt
      obtain ⟨cq1411, kq1411, q1411a, q1411b, q1411c⟩ := isOf hZ e1408 F1398
      obtain ⟨_, _, ⟨T1411, L1411, k1411, n1411⟩, -, X1411, ⟨Lc1411, hQ1411, l1411, y1411, z1411⟩, st1411⟩ := X1408.virtualBack hx (y := (⟨"org/reachwatch/IntBlocks", "get", "(I)I"⟩ : MethodName)) (z := (⟨"org/reachwatch/IntBlocks", "get", "(I)I"⟩ : MethodName)) hown (mvT hZ (W 42 rfl)) (mvT hZ (W 43 rfl)) (notFace_of_selects (args := #[]) (mvT hZ (W 45 rfl))) (mvT hZ (W 45 rfl)) (mvT hZ (W 44 rfl)) (by decide) (backOf (W := 0) (rm_get8_5 l Z a0 hw [] b840 k51_846 b51_846 b221_849 p0 p1 p5 k221_849 h1335 n0 O1335 F1397 F1399 F1400 J1335_1) hZ (W 46 rfl) (W 3 rfl) (by decide) (by decide)) q1411a q1411c (g := (mkF m 180 #[iv p0, iv p1, iv p2, iv p3, iv p4, iv p5, iv (3 : Int32), rv b840, iv (2 : Int32), iv p0, iv p1, iv p5, iv (1 : Int32)] [(.int (2 : Int32)), (.ref b840)])) rfl (by rw [hml]; rfl) (Steps.refl _) (argsL := [(.int (2 : Int32))]) (rest := []) (lenOf pd_18 rfl) rfl (by show 2 * 0 + _ ≤ _; exact Nat.le_of_eq rfl) (hb hby at_180) (fun _ _ => ⟨rfl, e1408, (by decide : 3 + 0 ≤ _), (by decide : 19 + 0 ≤ _)⟩)
      dsimp only [Pt.U, Pt.locs, Pt.cells, Pt.slots] at X1411 l1411 y1411 z1411 st1411 hQ1411
      replace l1411 := l1411.symm
      replace y1411 : 3 = k1411 := y1411.symm
      replace z1411 : 19 = n1411 := z1411.symm
      subst l1411 y1411 z1411
      obtain ⟨rfl, M1411, e1411⟩ := hQ1411
      have N1411 := Fr.app N1408 M1411
      have pre1412 : ∀ t, Steps p.tables e below (T1411.setTop (mkF m 183 #[iv p0, iv p1, iv p2, iv p3, iv p4, iv p5, iv (3 : Int32), rv b840, iv (2 : Int32), iv p0, iv p1, iv p5, iv (1 : Int32)] [(.int p5)])) t → Steps p.tables e below (s₁.setTop (entryFrame m #[(.int p0), (.int p1), (.int p2), (.int p3), (.int p4), (.int p5)] maxLocals)) t := fun t kt => pre1410 _ (st1411.trans kt)
      have pre1413 : ∀ t, Steps p.tables e below (T1411.setTop (mkF m 197 #[iv p0, iv p1, iv p2, iv p3, iv p4, iv p5, iv (3 : Int32), rv b840, iv (2 : Int32), iv p0, iv p1, iv p5, iv (1 : Int32)] [(.int (1 : Int32))])) t → Steps p.tables e below (s₁.setTop (entryFrame m #[(.int p0), (.int p1), (.int p2), (.int p3), (.int p4), (.int p5)] maxLocals)) t := fun t kt => by
        refine pre1412 _ ?_
        show Steps p.tables e below (T1411.setTop (mkF m 183 #[iv p0, iv p1, iv p2, iv p3, iv p4, iv p5, iv (3 : Int32), rv b840, iv (2 : Int32), iv p0, iv p1, iv p5, iv (1 : Int32)] [(.int p5)])) _
        refine XS.iload X1411.here hx rfl (hb hby at_183) rfl ?_
        show Steps p.tables e below (T1411.setTop (mkF m 185 #[iv p0, iv p1, iv p2, iv p3, iv p4, iv p5, iv (3 : Int32), rv b840, iv (2 : Int32), iv p0, iv p1, iv p5, iv (1 : Int32)] [(.int p5), (.int p5)])) _
        refine XS.icmpNo X1411.here hx rfl (hb hby at_185) rfl (XT.ii_ne_f rfl) ?_
        show Steps p.tables e below (T1411.setTop (mkF m 188 #[iv p0, iv p1, iv p2, iv p3, iv p4, iv p5, iv (3 : Int32), rv b840, iv (2 : Int32), iv p0, iv p1, iv p5, iv (1 : Int32)] [])) _
        refine XS.iconst X1411.here hx rfl (hb hby at_188) ?_
        show Steps p.tables e below (T1411.setTop (mkF m 189 #[iv p0, iv p1, iv p2, iv p3, iv p4, iv p5, iv (3 : Int32), rv b840, iv (2 : Int32), iv p0, iv p1, iv p5, iv (1 : Int32)] [(.int (1 : Int32))])) _
        refine XS.goto X1411.here hx rfl (pc0 := 189) (pc' := 193) rfl (hb hby at_189) (by decide) (by decide) ?_
        show Steps p.tables e below (T1411.setTop (mkF m 193 #[iv p0, iv p1, iv p2, iv p3, iv p4, iv p5, iv (3 : Int32), rv b840, iv (2 : Int32), iv p0, iv p1, iv p5, iv (1 : Int32)] [(.int (1 : Int32))])) _
        refine XS.istore X1411.here hx rfl (hb hby at_193) rfl (l' := #[iv p0, iv p1, iv p2, iv p3, iv p4, iv p5, iv (3 : Int32), rv b840, iv (2 : Int32), iv p0, iv p1, iv p5, iv (1 : Int32)]) rfl ?_
        show Steps p.tables e below (T1411.setTop (mkF m 195 #[iv p0, iv p1, iv p2, iv p3, iv p4, iv p5, iv (3 : Int32), rv b840, iv (2 : Int32), iv p0, iv p1, iv p5, iv (1 : Int32)] [])) _
        refine XS.iload X1411.here hx rfl (hb hby at_195) rfl ?_
        exact kt
      obtain ⟨fs, hr, hrun, hended, hW, hsame⟩ := X1411.leave (v := some (.int (1 : Int32))) (fun h => by rw [Bd.returns] at h; cases h)
      refine ⟨_, _, pre1413 _ (retN X1411 hx (t := .boolean) Bd.returns (by simp) (hb hby at_197) hr), hrun, hended, _, _, rfl, ?_, ⟨_, rfl⟩, hW, hsame.mono (by decide) (by decide)⟩
      show Q_law Z p0 p1 p2 p3 p4 p5 h0 n0 _ T1411.heap _
      rw [e1411]
      exact ⟨rfl, N1411⟩
set_option maxRecDepth 65536 in
set_option maxHeartbeats 40000000 in
theorem comes_1 {Post : Tables → Env → Array Value → State → Outcome → State → Prop} (hpost : ∀ tb e args s v u, (limb_1_1.after args s (.returned v) u = true ∧ limb_1_2.after args s (.returned v) u = true ∧ True) → FrameEnd s (.returned v) u (Jvm.fieldLocs frame_1_writes args s ++ Jvm.arrayLocs frame_1_arrays args s ++ Jvm.staticLocs frame_1_statics s) 16 128 → Post tb e args s (.returned v) u) :
    ArmFor flags0 classFile x code maxLocals ret World_1 tables_1 room_1 Calls_1 rest_1 Pre_1 Post := by
  intro l hfl _ _ p e ha hc hk s m args below hf hA hF happ hP
  obtain ⟨hcalls, hrest, hpre⟩ := hP
  obtain ⟨-, -, -, hnamed, -, -, -, hat⟩ := (Spec.applies_iff hf).mp happ
  obtain ⟨hg, hn⟩ := and_e (Cond.before_iff.mp (show (Jvm.Cond.and given_1 narrow_1).before args s = true from hpre))
  obtain ⟨given_1_2, given_1_3⟩ := and_e hg
  obtain ⟨given_1_4, given_1_5⟩ := and_e given_1_3
  obtain ⟨given_1_6, given_1_7⟩ := and_e given_1_5
  obtain ⟨given_1_8, given_1_9⟩ := and_e given_1_7
  obtain ⟨given_1_10, given_1_11⟩ := and_e given_1_9
  obtain ⟨given_1_12, given_1_13⟩ := and_e given_1_11
  obtain ⟨w0, w1, w2, w3, w4, w5, rfl⟩ : ∃ w0 w1 w2 w3 w4 w5 : Value, args = #[w0, w1, w2, w3, w4, w5] := by
    have hs : args.size = 6 := by simpa [Cond.value, given_1] using given_1_2
    obtain ⟨L⟩ := args
    match L, hs with
    | [w0, w1, w2, w3, w4, w5], _ => exact ⟨w0, w1, w2, w3, w4, w5, rfl⟩
  have hw := fun d (hd : d ∈ tables_1) => atoms_spec (ws := Jvm.Cond.code x code maxLocals ret :: tables_1) hat d (List.mem_cons_of_mem _ hd)
  have W := fun {d : Jvm.Cond} (i : Nat) (q : tables_1[i]? = some d) => hw d (List.mem_of_getElem? q)
  have hfit : Fit s := fun {y c} hc i hi => by
    obtain ⟨ha, rfl⟩ := Array.getElem?_eq_some_iff.mp hc
    have q := List.all_eq_true.mp ((Array.all_eq_true_iff_forall_mem.mp hF) _ (Array.getElem_mem ha)) i (List.mem_range.mpr hi)
    simpa [Array.getElem?_eq_getElem hi] using q
  obtain ⟨i0, ei0⟩ := is_v given_1_4
  obtain rfl : w0 = (.int i0) := Option.some.inj ei0
  obtain ⟨i1, ei1⟩ := is_v given_1_6
  obtain rfl : w1 = (.int i1) := Option.some.inj ei1
  obtain ⟨i2, ei2⟩ := is_v given_1_8
  obtain rfl : w2 = (.int i2) := Option.some.inj ei2
  obtain ⟨i3, ei3⟩ := is_v given_1_10
  obtain rfl : w3 = (.int i3) := Option.some.inj ei3
  obtain ⟨i4, ei4⟩ := is_v given_1_12
  obtain rfl : w4 = (.int i4) := Option.some.inj ei4
  obtain ⟨i5, ei5⟩ := is_v given_1_13
  obtain rfl : w5 = (.int i5) := Option.some.inj ei5
  obtain ⟨n, o, h1, h2, h3, _, L, rfl, ⟨rfl, N⟩, hq⟩ := rm_law l s _ hw tables_1 i0 i1 i2 i3 i4 i5 s.heap s.heap.size (Old.start s)  p e ha hc hk s m _ below hf ((Spec.applies_iff_loose hf).mp happ).1 ⟨rfl, State.Warmed39.refl s, rfl⟩ trivial
  refine ⟨n, _, h1, h2, h3, hpost _ _ _ _ _ _ ⟨Cond.after_iff.mpr rfl, Cond.after_iff.mpr (eq_i res_at (Term.int_eval (1)) rfl), trivial⟩ ⟨hq.1, hq.2.1, (hq.2.2.sift fun y hy => Or.inr (N y hy)).mono (by decide) (by decide)⟩⟩
theorem main_1_1 : Claimed_1_1 := comes_1 fun _ _ _ _ _ _ h hF => ⟨h.1, hF⟩
theorem main_1_2 : Claimed_1_2 := comes_1 fun _ _ _ _ _ _ h hF => ⟨h.2.1, hF⟩
end Jvm.Pilot.@@N@@
namespace Jvm.Pilot.@@N@@
open Jvm Jvm.ClassFile Sem Op Lib Jvm.Free Jvm.Stand Jvm.Pilot.@@N@@.Jvm.D
/-! MADE BY PROGRAM (witnessworld.py) out of the Statement's table words and the real class files: 12 classes; the members and pool entries that the words name. The judged class is class 1, her method 1. -/
namespace start1
open Jvm.ClassFile
def u (s : String) : CpInfo := .utf8 (stringToUtf16 s)
/-- a pool by its gaps: so many unusable entries, then the entry; so many at the end -/
def gap : Nat → List CpInfo → List CpInfo
  | 0, r => r
  | n + 1, r => .unusable :: gap n r
def poolList (es : List (Nat × CpInfo)) (last : Nat) : List CpInfo := es.foldr (fun e r => gap e.1 (e.2 :: r)) (gap last [])
def pool (es : List (Nat × CpInfo)) (last : Nat) : Array CpInfo := ⟨poolList es last⟩
def fileOf (pool : Array CpInfo) (this : Nat) (attrs : Array Attribute := #[]) (ms : Array MethodInfo := #[]) (fl : Nat := 33) (sup : Nat := 0) (ifs : Array Nat := #[]) (fds : Array FieldInfo := #[]) : ClassFile where
  minorVersion := 0
  majorVersion := 65
  constantPool := pool
  accessFlags := fl
  thisClass := this
  superClass := sup
  interfaces := ifs
  fields := fds
  methods := ms
  attributes := attrs
def plain (name : String) (sup : Option ClassId) : Class where
  name := name
  kind := .ordinary
  loader := none
  accessFlags := 33
  super := sup
  interfaces := #[]
  cf := none
  fields := #[]
  methods := #[]
  instanceTypes := #[]
  staticTypes := #[]
  resolved := #[]
  callSites := []
  init := .initialized
  statics := none
  mirror := none

def pool0 : Array CpInfo := pool [(5, u "<init>"), (0, u "()V"), (1, .class_ 10), (1, u "java/lang/Object")] 113

def k0c0 : Code := { maxStack := 0, maxLocals := 1, code := object_method_1_code, exceptionTable := #[], attributes := #[] }
def k0m0 : Method := { name := "<init>", desc := "()V", sig := { parameters := [], returnType := none }, accessFlags := 1, code := some k0c0 }
/-- java/lang/Object -/
def k0 : Class := { plain "java/lang/Object" none with
  accessFlags := 33
  interfaces := #[]
  cf := some (fileOf pool0 8 #[] #[{ accessFlags := 1, nameIndex := 5, descriptorIndex := 6, attributes := #[] }] 33 0 #[] #[])
  fields := #[]
  methods := #[k0m0]
  instanceTypes := #[]
  staticTypes := #[]
  resolved := Array.replicate 124 none
  statics := none }

def pool1 : Array CpInfo := pool [(2, .class_ 4), (0, .nameAndType 5 6), (0, u "java/lang/Object"), (0, u "<init>"), (0, u "()V"), (0, .integer 2147483647), (0, .class_ 9), (0, u "org/reachwatch/IntBlocks"), (0, .methodref 8 3), (0, .methodref 8 12), (0, .nameAndType 13 14), (0, u "add"), (0, u "(I)V"), (0, .methodref 8 16), (0, .nameAndType 17 18), (0, u "set"), (0, u "(II)V"), (0, .methodref 8 20), (0, .nameAndType 21 22), (0, u "size"), (0, u "()I"), (0, .methodref 8 24), (0, .nameAndType 25 26), (0, u "get"), (0, u "(I)I"), (0, .class_ 28), (0, u "org/reachwatch/IntBlocksSetPinLaw"), (2, u "law"), (0, u "(IIIIII)Z")] 3

def k1m0 : Method := { name := "<init>", desc := "()V", sig := { parameters := [], returnType := none }, accessFlags := 1, code := none }
def k1c1 : Code := { maxStack := 3, maxLocals := 13, code := code, exceptionTable := #[], attributes := #[] }
def k1m1 : Method := { name := "law", desc := "(IIIIII)Z", sig := { parameters := [.int, .int, .int, .int, .int, .int], returnType := some .boolean }, accessFlags := 9, code := some k1c1 }
/-- org/reachwatch/IntBlocksSetPinLaw -/
def k1 : Class := { plain "org/reachwatch/IntBlocksSetPinLaw" (some 0) with
  accessFlags := 49
  interfaces := #[]
  cf := some (fileOf pool1 27 #[] #[{ accessFlags := 1, nameIndex := 5, descriptorIndex := 6, attributes := #[] }, { accessFlags := 9, nameIndex := 31, descriptorIndex := 32, attributes := #[] }] 49 2 #[] #[])
  fields := #[]
  methods := #[k1m0, k1m1]
  instanceTypes := #[]
  staticTypes := #[]
  resolved := Array.replicate 36 none
  statics := none }

def pool2 : Array CpInfo := pool [(3, .methodref 4 5), (0, .class_ 6), (0, .nameAndType 7 8), (0, u "java/lang/Object"), (0, u "<init>"), (0, u "()V"), (0, .class_ 10), (0, u "[I"), (0, .fieldref 12 13), (0, .class_ 14), (0, .nameAndType 15 16), (0, u "org/reachwatch/IntBlocks"), (0, u "blocks"), (0, u "[[I"), (0, .fieldref 12 18), (0, .nameAndType 19 20), (0, u "size"), (0, u "I"), (0, .integer 65536), (10, .methodref 33 34), (0, .class_ 35), (0, .nameAndType 36 37), (0, u "java/util/Objects"), (0, u "checkIndex"), (0, u "(II)I"), (15, u "BLOCK"), (1, u "MAX_SIZE"), (1, u "FIRST_BLOCK"), (3, u "add"), (0, u "(I)V"), (1, u "get"), (0, u "(I)I"), (0, u "set"), (0, u "(II)V"), (0, u "()I")] 4

def k2c0 : Code := { maxStack := 2, maxLocals := 1, code := prog_56_method_1_code, exceptionTable := #[], attributes := #[] }
def k2m0 : Method := { name := "<init>", desc := "()V", sig := { parameters := [], returnType := none }, accessFlags := 0, code := some k2c0 }
def k2c1 : Code := { maxStack := 5, maxLocals := 4, code := prog_56_method_2_code, exceptionTable := #[], attributes := #[] }
def k2m1 : Method := { name := "add", desc := "(I)V", sig := { parameters := [.int], returnType := none }, accessFlags := 0, code := some k2c1 }
def k2c2 : Code := { maxStack := 3, maxLocals := 2, code := prog_56_method_3_code, exceptionTable := #[], attributes := #[] }
def k2m2 : Method := { name := "get", desc := "(I)I", sig := { parameters := [.int], returnType := some .int }, accessFlags := 0, code := some k2c2 }
def k2c3 : Code := { maxStack := 3, maxLocals := 3, code := prog_56_method_4_code, exceptionTable := #[], attributes := #[] }
def k2m3 : Method := { name := "set", desc := "(II)V", sig := { parameters := [.int, .int], returnType := none }, accessFlags := 0, code := some k2c3 }
def k2c4 : Code := { maxStack := 1, maxLocals := 1, code := prog_56_method_5_code, exceptionTable := #[], attributes := #[] }
def k2m4 : Method := { name := "size", desc := "()I", sig := { parameters := [], returnType := some .int }, accessFlags := 0, code := some k2c4 }
/-- org/reachwatch/IntBlocks -/
def k2 : Class := { plain "org/reachwatch/IntBlocks" (some 0) with
  accessFlags := 48
  interfaces := #[]
  cf := some (fileOf pool2 12 #[] #[{ accessFlags := 0, nameIndex := 7, descriptorIndex := 8, attributes := #[] }, { accessFlags := 0, nameIndex := 61, descriptorIndex := 62, attributes := #[] }, { accessFlags := 0, nameIndex := 64, descriptorIndex := 65, attributes := #[] }, { accessFlags := 0, nameIndex := 66, descriptorIndex := 67, attributes := #[] }, { accessFlags := 0, nameIndex := 19, descriptorIndex := 68, attributes := #[] }] 48 4 #[] #[{ accessFlags := 24, nameIndex := 53, descriptorIndex := 20, attributes := #[] }, { accessFlags := 24, nameIndex := 55, descriptorIndex := 20, attributes := #[] }, { accessFlags := 26, nameIndex := 57, descriptorIndex := 20, attributes := #[] }, { accessFlags := 2, nameIndex := 15, descriptorIndex := 16, attributes := #[] }, { accessFlags := 2, nameIndex := 19, descriptorIndex := 20, attributes := #[] }])
  fields := #[{ name := "BLOCK", type := .int, accessFlags := 24, slot := 0, constantValue := 0 }, { name := "MAX_SIZE", type := .int, accessFlags := 24, slot := 1, constantValue := 0 }, { name := "FIRST_BLOCK", type := .int, accessFlags := 26, slot := 2, constantValue := 0 }, { name := "blocks", type := (.array (.array .int)), accessFlags := 2, slot := 0, constantValue := 0 }, { name := "size", type := .int, accessFlags := 2, slot := 1, constantValue := 0 }]
  methods := #[k2m0, k2m1, k2m2, k2m3, k2m4]
  instanceTypes := #[(.array (.array .int)), .int]
  staticTypes := #[.int, .int, .int]
  resolved := Array.replicate 73 none
  statics := none }

def pool3 : Array CpInfo := pool [(2, .class_ 4), (1, u "java/lang/Object"), (0, u "<init>"), (0, u "()V"), (35, .class_ 44), (1, u "java/util/Objects"), (60, .methodref 106 107), (0, .class_ 108), (0, .nameAndType 109 110), (0, u "jdk/internal/util/Preconditions"), (0, u "checkIndex"), (0, u "(IILjava/util/function/BiFunction;)I"), (60, u "(II)I")] 12

def k3m0 : Method := { name := "<init>", desc := "()V", sig := { parameters := [], returnType := none }, accessFlags := 2, code := none }
def k3c1 : Code := { maxStack := 3, maxLocals := 2, code := jdk_31_method_17_code, exceptionTable := #[], attributes := #[] }
def k3m1 : Method := { name := "checkIndex", desc := "(II)I", sig := { parameters := [.int, .int], returnType := some .int }, accessFlags := 9, code := some k3c1 }
/-- java/util/Objects -/
def k3 : Class := { plain "java/util/Objects" (some 0) with
  accessFlags := 49
  interfaces := #[]
  cf := some (fileOf pool3 42 #[] #[{ accessFlags := 2, nameIndex := 5, descriptorIndex := 6, attributes := #[] }, { accessFlags := 9, nameIndex := 109, descriptorIndex := 171, attributes := #[] }] 49 2 #[] #[])
  fields := #[]
  methods := #[k3m0, k3m1]
  instanceTypes := #[]
  staticTypes := #[]
  resolved := Array.replicate 184 none
  statics := none }

def pool4 : Array CpInfo := pool [(2, .class_ 4), (1, u "java/lang/Object"), (0, u "<init>"), (0, u "()V"), (17, .class_ 26), (1, u "jdk/internal/util/Preconditions"), (6, u "checkIndex"), (21, .class_ 56), (0, u "jdk/internal/util/Preconditions$4"), (57, .class_ 115), (0, u "jdk/internal/util/Preconditions$1"), (7, u "SIOOBE_FORMATTER"), (0, u "Ljava/util/function/BiFunction;"), (0, .class_ 126), (0, u "jdk/internal/util/Preconditions$2"), (3, u "AIOOBE_FORMATTER"), (0, .class_ 132), (0, u "jdk/internal/util/Preconditions$3"), (3, u "IOOBE_FORMATTER"), (41, u "(IILjava/util/function/BiFunction;)I")] 15

def k4m0 : Method := { name := "<init>", desc := "()V", sig := { parameters := [], returnType := none }, accessFlags := 1, code := none }
def k4c1 : Code := { maxStack := 3, maxLocals := 3, code := jdk_41_method_11_code, exceptionTable := #[], attributes := #[] }
def k4m1 : Method := { name := "checkIndex", desc := "(IILjava/util/function/BiFunction;)I", sig := { parameters := [.int, .int, (.object "java/util/function/BiFunction")], returnType := some .int }, accessFlags := 9, code := some k4c1 }
/-- jdk/internal/util/Preconditions -/
def k4 : Class := { plain "jdk/internal/util/Preconditions" (some 0) with
  accessFlags := 33
  interfaces := #[]
  cf := some (fileOf pool4 24 #[.nestMembers #[55, 131, 125, 114]] #[{ accessFlags := 1, nameIndex := 5, descriptorIndex := 6, attributes := #[] }, { accessFlags := 9, nameIndex := 33, descriptorIndex := 178, attributes := #[] }] 33 2 #[] #[{ accessFlags := 25, nameIndex := 123, descriptorIndex := 124, attributes := #[] }, { accessFlags := 25, nameIndex := 130, descriptorIndex := 124, attributes := #[] }, { accessFlags := 25, nameIndex := 136, descriptorIndex := 124, attributes := #[] }])
  fields := #[{ name := "SIOOBE_FORMATTER", type := (.object "java/util/function/BiFunction"), accessFlags := 25, slot := 0, constantValue := 0 }, { name := "AIOOBE_FORMATTER", type := (.object "java/util/function/BiFunction"), accessFlags := 25, slot := 1, constantValue := 0 }, { name := "IOOBE_FORMATTER", type := (.object "java/util/function/BiFunction"), accessFlags := 25, slot := 2, constantValue := 0 }]
  methods := #[k4m0, k4m1]
  instanceTypes := #[]
  staticTypes := #[(.object "java/util/function/BiFunction"), (.object "java/util/function/BiFunction"), (.object "java/util/function/BiFunction")]
  resolved := Array.replicate 194 none
  statics := none }

def pool5 : Array CpInfo := pool [(1, u "java/lang/Cloneable"), (0, .class_ 1), (0, u "java/lang/Object"), (0, .class_ 3)] 3

/-- java/lang/Cloneable -/
def k5 : Class := { plain "java/lang/Cloneable" (some 0) with
  accessFlags := 1537
  interfaces := #[]
  cf := some (fileOf pool5 2 #[] #[] 1537 4 #[] #[])
  fields := #[]
  methods := #[]
  instanceTypes := #[]
  staticTypes := #[]
  resolved := Array.replicate 8 none
  statics := none }

def pool6 : Array CpInfo := pool [(1, u "java/io/Serializable"), (0, .class_ 1), (0, u "java/lang/Object"), (0, .class_ 3)] 3

/-- java/io/Serializable -/
def k6 : Class := { plain "java/io/Serializable" (some 0) with
  accessFlags := 1537
  interfaces := #[]
  cf := some (fileOf pool6 2 #[] #[] 1537 4 #[] #[])
  fields := #[]
  methods := #[]
  instanceTypes := #[]
  staticTypes := #[]
  resolved := Array.replicate 8 none
  statics := none }

/-- the primitive byte -/
def k7 : Class := { plain "byte" none with kind := .primitive 'B', accessFlags := 0x411 }
/-- [B -/
def k8 : Class := { plain "[B" (some 0) with kind := .array 7 .byte, interfaces := #[5, 6], accessFlags := 1041 }

/-- the primitive int -/
def k9 : Class := { plain "int" none with kind := .primitive 'I', accessFlags := 0x411 }
/-- [I -/
def k10 : Class := { plain "[I" (some 0) with kind := .array 9 .int, interfaces := #[5, 6], accessFlags := 1041 }

/-- [[I -/
def k11 : Class := { plain "[[I" (some 0) with kind := .array 10 (.array .int), interfaces := #[5, 6], accessFlags := 1041 }

def heap : Heap := #[]
def classes : Array Class := #[k0, k1, k2, k3, k4, k5, k6, k7, k8, k9, k10, k11]
def interned : List (Array UInt16 × Addr) := []
def slotsUsed : Nat := 0
def theMethod : MethodId := ⟨1, 1⟩
def args0 : Array Value := #[.int 5, .int 4, .int 5, .int 4, .int 5, .int 4]
def aboutOver (below : List Frame) : State where
  vm := { classes := classes, interned := interned.toArray }
  heap := heap
  slotsUsed := slotsUsed
  threads := #[{ frames := .invoking theMethod args0 :: below }]
def below0 : List Frame := [.native { method := ⟨0, 0⟩, args := #[] }]
def about1 : State := aboutOver below0
def p0 : Program := .bare "" "" ""
def e0 : Env := launch0.env 0 0 0
theorem w_frames : about1.frames = Frame.invoking theMethod args0 :: below0 := rfl
set_option maxRecDepth 65536 in
theorem w_args : argsFit about1.vm theMethod args0 = true := by decide +kernel
set_option maxRecDepth 65536 in
theorem w_heap : heapFits about1 = true := by decide +kernel
set_option maxRecDepth 65536 in
theorem w_runnable : about1.curStatus? = some .runnable := by decide +kernel
set_option maxRecDepth 65536 in
theorem w_alone : about1.alone = true := by decide +kernel
set_option maxRecDepth 65536 in
theorem w_named : about1.methodNamed? x = some theMethod := by decide +kernel
set_option maxRecDepth 65536 in
theorem w_hears : about1.hears theMethod below0 = true := by decide +kernel
set_option maxRecDepth 65536 in
theorem w_ripe : about1.ripe theMethod args0 below0 = true := by decide +kernel
theorem w_running : about1.status = .running := rfl
set_option maxRecDepth 65536 in
theorem w_room : about1.hasRoom e0.platform room_1 = true :=
  launch0.hasRoom_least _ room_1 (by decide +kernel) (by decide +kernel) (by decide +kernel) (by decide +kernel) (by decide +kernel) (by decide +kernel)
theorem allAtoms_all (ts : List Jvm.Cond) (a : Array Jvm.Value) (st : Jvm.State) : (allAtoms ts).before a st = ts.all (fun c => c.before a st) := by
  induction ts with
  | nil => rfl
  | cons c t ih =>
    show (Jvm.Cond.and c (allAtoms t)).before a st = _
    rw [Jvm.Cond.before_and, ih, List.all_cons]
def words1 : List Jvm.Cond := Jvm.Cond.code x code maxLocals ret :: tables_1
/-- a 'code' word, met by the world's own term for the bytes: nothing is compared byte by byte -/
theorem code_word {y : MethodName} {bytes : ByteArray} {mx : Nat} {rt : Option FieldType} {a : Array Value} {s : State} {m : MethodId} {meth : Method} {c : Code} (h1 : s.methodNamed? y = some m) (h2 : s.vm.method? m = some meth) (h3 : meth.code = some c) (h4 : c.code = bytes)
    (h5 : (c.maxLocals == mx && c.exceptionTable.isEmpty && decide (c.maxStack ≤ mostOperands) && decide (meth.sig.returnType = rt) && !meth.locks && decide (parseMethodDescriptor y.desc = some meth.sig)) = true) : (Jvm.Cond.code y bytes mx rt).before a s = true := by
  simp only [Bool.and_eq_true, beq_iff_eq, Bool.not_eq_true', decide_eq_true_eq] at h5
  obtain ⟨⟨⟨⟨⟨g1, g2⟩, g3⟩, g4⟩, g5⟩, g6⟩ := h5
  simp [Cond.before, Cond.holds, Cond.value, h1, h2, h3, h4, g1, g2, g3, g4, g5, g6]
def isCode : Jvm.Cond → Bool
  | .code _ _ _ _ => true
  | _ => false
theorem all_split {L : List Jvm.Cond} {P : Jvm.Cond → Bool} (h1 : L.all (fun c => isCode c || P c) = true) (h2 : ∀ c ∈ L.filter isCode, P c = true) : L.all P = true := by
  refine List.all_eq_true.mpr fun c hc => ?_
  have h := List.all_eq_true.mp h1 c hc
  rcases Bool.eq_false_or_eq_true (isCode c) with hi | hi
  · exact h2 c (List.mem_filter.mpr ⟨hc, hi⟩)
  · simpa [hi] using h
set_option maxRecDepth 65536 in
theorem w_c0 : (Jvm.Cond.code x code maxLocals ret).before args0 about1 = true := code_word (m := ⟨1, 1⟩) (meth := k1m1) (c := k1c1) (by decide +kernel) rfl rfl rfl (by decide +kernel)
set_option maxRecDepth 65536 in
theorem w_c1 : (Jvm.Cond.code ({ cls := "org/reachwatch/IntBlocks", name := "<init>", desc := "()V" } : Jvm.MethodName) prog_56_method_1_code (1 : Nat) (Option.none : Option Jvm.ClassFile.FieldType)).before args0 about1 = true := code_word (m := ⟨2, 0⟩) (meth := k2m0) (c := k2c0) (by decide +kernel) rfl rfl rfl (by decide +kernel)
set_option maxRecDepth 65536 in
theorem w_c2 : (Jvm.Cond.code ({ cls := "java/lang/Object", name := "<init>", desc := "()V" } : Jvm.MethodName) object_method_1_code (1 : Nat) (Option.none : Option Jvm.ClassFile.FieldType)).before args0 about1 = true := code_word (m := ⟨0, 0⟩) (meth := k0m0) (c := k0c0) (by decide +kernel) rfl rfl rfl (by decide +kernel)
set_option maxRecDepth 65536 in
theorem w_c3 : (Jvm.Cond.code ({ cls := "org/reachwatch/IntBlocks", name := "add", desc := "(I)V" } : Jvm.MethodName) prog_56_method_2_code (4 : Nat) (Option.none : Option Jvm.ClassFile.FieldType)).before args0 about1 = true := code_word (m := ⟨2, 1⟩) (meth := k2m1) (c := k2c1) (by decide +kernel) rfl rfl rfl (by decide +kernel)
set_option maxRecDepth 65536 in
theorem w_c4 : (Jvm.Cond.code ({ cls := "org/reachwatch/IntBlocks", name := "set", desc := "(II)V" } : Jvm.MethodName) prog_56_method_4_code (3 : Nat) (Option.none : Option Jvm.ClassFile.FieldType)).before args0 about1 = true := code_word (m := ⟨2, 3⟩) (meth := k2m3) (c := k2c3) (by decide +kernel) rfl rfl rfl (by decide +kernel)
set_option maxRecDepth 65536 in
theorem w_c5 : (Jvm.Cond.code ({ cls := "java/util/Objects", name := "checkIndex", desc := "(II)I" } : Jvm.MethodName) jdk_31_method_17_code (2 : Nat) (Option.some Jvm.ClassFile.FieldType.int)).before args0 about1 = true := code_word (m := ⟨3, 1⟩) (meth := k3m1) (c := k3c1) (by decide +kernel) rfl rfl rfl (by decide +kernel)
set_option maxRecDepth 65536 in
theorem w_c6 : (Jvm.Cond.code ({ cls := "jdk/internal/util/Preconditions", name := "checkIndex", desc := "(IILjava/util/function/BiFunction;)I" } : Jvm.MethodName) jdk_41_method_11_code (3 : Nat) (Option.some Jvm.ClassFile.FieldType.int)).before args0 about1 = true := code_word (m := ⟨4, 1⟩) (meth := k4m1) (c := k4c1) (by decide +kernel) rfl rfl rfl (by decide +kernel)
set_option maxRecDepth 65536 in
theorem w_c7 : (Jvm.Cond.code ({ cls := "org/reachwatch/IntBlocks", name := "size", desc := "()I" } : Jvm.MethodName) prog_56_method_5_code (1 : Nat) (Option.some Jvm.ClassFile.FieldType.int)).before args0 about1 = true := code_word (m := ⟨2, 4⟩) (meth := k2m4) (c := k2c4) (by decide +kernel) rfl rfl rfl (by decide +kernel)
set_option maxRecDepth 65536 in
theorem w_c8 : (Jvm.Cond.code ({ cls := "org/reachwatch/IntBlocks", name := "get", desc := "(I)I" } : Jvm.MethodName) prog_56_method_3_code (2 : Nat) (Option.some Jvm.ClassFile.FieldType.int)).before args0 about1 = true := code_word (m := ⟨2, 2⟩) (meth := k2m2) (c := k2c2) (by decide +kernel) rfl rfl rfl (by decide +kernel)
def codes1 : List Jvm.Cond := [Jvm.Cond.code x code maxLocals ret, Jvm.Cond.code ({ cls := "org/reachwatch/IntBlocks", name := "<init>", desc := "()V" } : Jvm.MethodName) prog_56_method_1_code (1 : Nat) (Option.none : Option Jvm.ClassFile.FieldType), Jvm.Cond.code ({ cls := "java/lang/Object", name := "<init>", desc := "()V" } : Jvm.MethodName) object_method_1_code (1 : Nat) (Option.none : Option Jvm.ClassFile.FieldType), Jvm.Cond.code ({ cls := "org/reachwatch/IntBlocks", name := "add", desc := "(I)V" } : Jvm.MethodName) prog_56_method_2_code (4 : Nat) (Option.none : Option Jvm.ClassFile.FieldType), Jvm.Cond.code ({ cls := "org/reachwatch/IntBlocks", name := "set", desc := "(II)V" } : Jvm.MethodName) prog_56_method_4_code (3 : Nat) (Option.none : Option Jvm.ClassFile.FieldType), Jvm.Cond.code ({ cls := "java/util/Objects", name := "checkIndex", desc := "(II)I" } : Jvm.MethodName) jdk_31_method_17_code (2 : Nat) (Option.some Jvm.ClassFile.FieldType.int), Jvm.Cond.code ({ cls := "jdk/internal/util/Preconditions", name := "checkIndex", desc := "(IILjava/util/function/BiFunction;)I" } : Jvm.MethodName) jdk_41_method_11_code (3 : Nat) (Option.some Jvm.ClassFile.FieldType.int), Jvm.Cond.code ({ cls := "org/reachwatch/IntBlocks", name := "size", desc := "()I" } : Jvm.MethodName) prog_56_method_5_code (1 : Nat) (Option.some Jvm.ClassFile.FieldType.int), Jvm.Cond.code ({ cls := "org/reachwatch/IntBlocks", name := "get", desc := "(I)I" } : Jvm.MethodName) prog_56_method_3_code (2 : Nat) (Option.some Jvm.ClassFile.FieldType.int)]
set_option maxRecDepth 65536 in
theorem codes_eq : words1.filter isCode = codes1 := rfl
theorem w_codes : ∀ c ∈ words1.filter isCode, c.before args0 about1 = true := by
  rw [codes_eq]
  intro c hc
  simp only [codes1, List.mem_cons, List.not_mem_nil, or_false] at hc
  rcases hc with rfl | rfl | rfl | rfl | rfl | rfl | rfl | rfl | rfl
  · exact w_c0
  · exact w_c1
  · exact w_c2
  · exact w_c3
  · exact w_c4
  · exact w_c5
  · exact w_c6
  · exact w_c7
  · exact w_c8
set_option maxRecDepth 65536 in
theorem w_t1 : (words1.take 24).all (fun c => isCode c || c.before args0 about1) = true := by decide +kernel
set_option maxRecDepth 65536 in
theorem w_t2 : (words1.drop 24).all (fun c => isCode c || c.before args0 about1) = true := by decide +kernel
theorem w_tables : (allAtoms (Jvm.Cond.code x code maxLocals ret :: tables_1)).before args0 about1 = true := by
  rw [allAtoms_all]
  show words1.all (fun c => c.before args0 about1) = true
  refine all_split ?_ w_codes
  rw [← List.take_append_drop 24 words1, List.all_append, w_t1, w_t2]
  rfl
set_option maxRecDepth 65536 in
theorem w_case : (Jvm.Cond.and given_1 narrow_1).before args0 about1 = true := by decide +kernel
theorem w_applies : (headSpec (Jvm.Cond.code x code maxLocals ret :: tables_1) room_1).applies x e0.platform about1 = true :=
  (Spec.applies_iff w_frames).mpr ⟨w_running, w_runnable, w_alone, w_named, w_hears, w_ripe, w_room, w_tables⟩
theorem atStart : AtStart classFile x code maxLocals ret World_1 tables_1 room_1 Calls_1 rest_1 Pre_1 launch0 p0 e0 about1 theMethod args0 below0 :=
  ⟨lists_1, trivial, launch0.admits_env _ _ _, launch0.least_env, fairChoices_fair.cas, fairChoices_fair.clock, w_frames, w_args, w_heap, w_applies, trivial, trivial, w_case⟩
end start1
theorem witness_1 : WitnessClaimed_1 := ⟨start1.p0, start1.e0, start1.about1, start1.theMethod, start1.args0, start1.below0, start1.atStart⟩
end Jvm.Pilot.@@N@@
