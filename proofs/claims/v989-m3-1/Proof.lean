import JvmDerived
import JvmDerived.Pilot.@@N@@Statement
import JvmDerived.Pilot.@@N@@Code
set_option linter.unusedVariables false
set_option linter.unusedSimpArgs false
@@BLOCK:NumsL.lean.txt@@
namespace Jvm.RoadKit
open Sem ClassFile Op Lib Jvm.Stand Jvm.Free Jvm.LawKit
section New
variable {p : Program} {l : Launch} {e : Env} {R : Room} {s : State} {m : MethodId} {args : Array Value} {below : List Frame} {meth : Method} {c : Code} {T : State} {locs : List Loc} {cells slots : Nat}
theorem retI (X : Stand p l e R s m args below meth c T locs cells slots) (hx : p.tables.exec = Jvm.exec) {pc : Nat} {Ls : Array Slot} {z : Int32} {rest : List Value} (hret : meth.sig.returnType = some .int) (hd : decode c.code pc = .ok (.ireturn, 1)) {fs : List Frame}
    (hl : ∀ (f : JFrame) (acts : List Action), f.method = m → f.locked = none → f.entered = [] → (doReturn e (T.setTop f) acts (some (.int z))).1 = T.setFrames fs) : Steps p.tables e below (T.setTop (mkF m pc Ls (.int z :: rest))) (T.setFrames fs) := by
  have hm' : T.vm.method? m = some meth := X.method'
  have hn : narrow .int (.int z) = .int z := rfl
  show Steps p.tables e below (T.setTop { method := m, pc := pc, locals := Ls, stack := _ :: rest, locked := none }) _
  jvm_step X.here [X.here.top, hx, hd, hm', hret, hn]
  first | (intro acts; rw [hl _ acts rfl rfl rfl]) | rw [hl _ _ rfl rfl rfl]
  exact Steps.refl _
end New
end Jvm.RoadKit
namespace Jvm.Pilot.@@N@@
open Jvm Jvm.ClassFile Sem Op Lib Jvm.Free Jvm.Stand Jvm.LawKit Jvm.RoadKit Bundle Jvm.Pilot.@@N@@.Jvm.D
theorem own_fld_ne {Z : State} {h : Heap} {a b : Addr} {C n d : String} {v w : Value} (F : Fld Z h a C n d v) (G : Fld Z h b C n d w) (q : v ≠ w) : a ≠ b := fun e => by
  subst e
  obtain ⟨c1, cf1, k1, i1, f1, a1, a2, -, -, -, -, a7⟩ := F
  obtain ⟨c2, cf2, k2, i2, f2, b1, b2, -, -, -, -, b7⟩ := G
  cases a1.symm.trans b1
  cases a2.symm.trans b2
  exact q (Option.some.inj (a7.symm.trans b7))
theorem own_fldI {args : Array Value} {s : State} {t : Term} {a : Addr} {C n d : String} {k : Int32} (ht : t.eval args s none [] s = some (.ref a)) (h : (Jvm.Cond.eq (Term.field t C n d) (Term.int k)).value args s none s [] = some true) : Fld s s.heap a C n d (.int k) := by
  apply Fld.start
  have e1 : (Term.field t C n d).eval args s none [] s = s.fieldOf? a C n d := fld_at ht
  have e2 : (Term.int k).eval args s none [] s = some (.int k) := Term.int_eval k
  simp only [Cond.value, e1, e2] at h
  split at h <;> simp_all
theorem own_nm0 {a : Addr} : a ∉ ([] : List Addr) := List.not_mem_nil
theorem own_nm1 {a x : Addr} (h : a ≠ x) : a ∉ [x] := fun q => h (List.mem_singleton.mp q)
theorem own_nm2 {a x y : Addr} (h : a ≠ x) (h2 : a ≠ y) : a ∉ [x, y] := fun q => by
  rcases List.mem_cons.mp q with q | q
  · exact h q
  · exact h2 (List.mem_singleton.mp q)
theorem own_nm3 {a x y z : Addr} (h : a ≠ x) (h2 : a ≠ y) (h3 : a ≠ z) : a ∉ [x, y, z] := fun q => by
  rcases List.mem_cons.mp q with q | q
  · exact h q
  · exact own_nm2 h2 h3 q
theorem own_all0 {P : Addr → Prop} : ∀ x ∈ ([] : List Addr), P x := fun x q => (List.not_mem_nil q).elim
theorem own_all1 {P : Addr → Prop} {a : Addr} (h : P a) : ∀ x ∈ [a], P x := fun x q => by rw [List.mem_singleton.mp q]; exact h
theorem own_all2 {P : Addr → Prop} {a b : Addr} (h : P a) (h2 : P b) : ∀ x ∈ [a, b], P x := fun x q => by
  rcases List.mem_cons.mp q with q | q
  · rw [q]; exact h
  · rw [List.mem_singleton.mp q]; exact h2
theorem own_all3 {P : Addr → Prop} {a b c : Addr} (h : P a) (h2 : P b) (h3 : P c) : ∀ x ∈ [a, b, c], P x := fun x q => by
  rcases List.mem_cons.mp q with q | q
  · rw [q]; exact h
  · exact own_all2 h2 h3 x q
theorem own_mask3 (x : Int32) : (x &&& (3 : Int32)) = (0 : Int32) ∨ (x &&& (3 : Int32)) = (1 : Int32) ∨ (x &&& (3 : Int32)) = (2 : Int32) ∨ (x &&& (3 : Int32)) = (3 : Int32) := by
  have e : (x &&& 3).toInt = x.toInt % 2 ^ 2 := Jvm.Kit.i32_mask x 3 (k := 2) (by decide) (by decide)
  have h : (x &&& 3).toInt = 0 ∨ (x &&& 3).toInt = 1 ∨ (x &&& 3).toInt = 2 ∨ (x &&& 3).toInt = 3 := by omega
  rcases h with h | h | h | h
  · exact Or.inl (Int32.toInt_inj.mp h)
  · exact Or.inr (Or.inl (Int32.toInt_inj.mp h))
  · exact Or.inr (Or.inr (Or.inl (Int32.toInt_inj.mp h)))
  · exact Or.inr (Or.inr (Or.inr (Int32.toInt_inj.mp h)))
theorem own_rem1 (x : Int32) : ((x &&& (2147483647 : Int32)) - ((x &&& (2147483647 : Int32)) / (1 : Int32)) * (1 : Int32)) = (0 : Int32) := by
  rw [Int32.div_one, Int32.mul_one, Int32.sub_self]
theorem own_rem2 (x : Int32) : ((x &&& (2147483647 : Int32)) - ((x &&& (2147483647 : Int32)) / (2 : Int32)) * (2 : Int32)) = (0 : Int32) ∨ ((x &&& (2147483647 : Int32)) - ((x &&& (2147483647 : Int32)) / (2 : Int32)) * (2 : Int32)) = (1 : Int32) := by
  have e : (x &&& (2147483647 : Int32)).toInt = x.toInt % 2 ^ 31 := Jvm.Kit.i32_mask x _ (k := 31) (by decide) (by decide)
  generalize (x &&& (2147483647 : Int32)) = y at *
  have c : ((2 : Int32)).toInt = 2 := by decide
  have d : (y / (2 : Int32)).toInt = y.toInt / 2 := by rw [Jvm.Kit.i32_div (by rw [c]; omega), c, Int.tdiv_eq_ediv_of_nonneg (by omega)]
  have m : ((y / (2 : Int32)) * (2 : Int32)).toInt = y.toInt / 2 * 2 := by rw [Jvm.Kit.i32_mul (by rw [c, d]; omega) (by rw [c, d]; omega), c, d]
  have r : (y - (y / (2 : Int32)) * (2 : Int32)).toInt = y.toInt - y.toInt / 2 * 2 := by rw [Jvm.Kit.i32_sub (by rw [m]; omega) (by rw [m]; omega), m]
  have h : (y - (y / (2 : Int32)) * (2 : Int32)).toInt = 0 ∨ (y - (y / (2 : Int32)) * (2 : Int32)).toInt = 1 := by omega
  rcases h with h | h
  · exact Or.inl (Int32.toInt_inj.mp h)
  · exact Or.inr (Int32.toInt_inj.mp h)
theorem own_rem3 (x : Int32) : ((x &&& (2147483647 : Int32)) - ((x &&& (2147483647 : Int32)) / (3 : Int32)) * (3 : Int32)) = (0 : Int32) ∨ ((x &&& (2147483647 : Int32)) - ((x &&& (2147483647 : Int32)) / (3 : Int32)) * (3 : Int32)) = (1 : Int32) ∨ ((x &&& (2147483647 : Int32)) - ((x &&& (2147483647 : Int32)) / (3 : Int32)) * (3 : Int32)) = (2 : Int32) := by
  have e : (x &&& (2147483647 : Int32)).toInt = x.toInt % 2 ^ 31 := Jvm.Kit.i32_mask x _ (k := 31) (by decide) (by decide)
  generalize (x &&& (2147483647 : Int32)) = y at *
  have c : ((3 : Int32)).toInt = 3 := by decide
  have d : (y / (3 : Int32)).toInt = y.toInt / 3 := by rw [Jvm.Kit.i32_div (by rw [c]; omega), c, Int.tdiv_eq_ediv_of_nonneg (by omega)]
  have m : ((y / (3 : Int32)) * (3 : Int32)).toInt = y.toInt / 3 * 3 := by rw [Jvm.Kit.i32_mul (by rw [c, d]; omega) (by rw [c, d]; omega), c, d]
  have r : (y - (y / (3 : Int32)) * (3 : Int32)).toInt = y.toInt - y.toInt / 3 * 3 := by rw [Jvm.Kit.i32_sub (by rw [m]; omega) (by rw [m]; omega), m]
  have h : (y - (y / (3 : Int32)) * (3 : Int32)).toInt = 0 ∨ (y - (y / (3 : Int32)) * (3 : Int32)).toInt = 1 ∨ (y - (y / (3 : Int32)) * (3 : Int32)).toInt = 2 := by omega
  rcases h with h | h | h
  · exact Or.inl (Int32.toInt_inj.mp h)
  · exact Or.inr (Or.inl (Int32.toInt_inj.mp h))
  · exact Or.inr (Or.inr (Int32.toInt_inj.mp h))
theorem own_rem4 (x : Int32) : ((x &&& (2147483647 : Int32)) - ((x &&& (2147483647 : Int32)) / (4 : Int32)) * (4 : Int32)) = (0 : Int32) ∨ ((x &&& (2147483647 : Int32)) - ((x &&& (2147483647 : Int32)) / (4 : Int32)) * (4 : Int32)) = (1 : Int32) ∨ ((x &&& (2147483647 : Int32)) - ((x &&& (2147483647 : Int32)) / (4 : Int32)) * (4 : Int32)) = (2 : Int32) ∨ ((x &&& (2147483647 : Int32)) - ((x &&& (2147483647 : Int32)) / (4 : Int32)) * (4 : Int32)) = (3 : Int32) := by
  have e : (x &&& (2147483647 : Int32)).toInt = x.toInt % 2 ^ 31 := Jvm.Kit.i32_mask x _ (k := 31) (by decide) (by decide)
  generalize (x &&& (2147483647 : Int32)) = y at *
  have c : ((4 : Int32)).toInt = 4 := by decide
  have d : (y / (4 : Int32)).toInt = y.toInt / 4 := by rw [Jvm.Kit.i32_div (by rw [c]; omega), c, Int.tdiv_eq_ediv_of_nonneg (by omega)]
  have m : ((y / (4 : Int32)) * (4 : Int32)).toInt = y.toInt / 4 * 4 := by rw [Jvm.Kit.i32_mul (by rw [c, d]; omega) (by rw [c, d]; omega), c, d]
  have r : (y - (y / (4 : Int32)) * (4 : Int32)).toInt = y.toInt - y.toInt / 4 * 4 := by rw [Jvm.Kit.i32_sub (by rw [m]; omega) (by rw [m]; omega), m]
  have h : (y - (y / (4 : Int32)) * (4 : Int32)).toInt = 0 ∨ (y - (y / (4 : Int32)) * (4 : Int32)).toInt = 1 ∨ (y - (y / (4 : Int32)) * (4 : Int32)).toInt = 2 ∨ (y - (y / (4 : Int32)) * (4 : Int32)).toInt = 3 := by omega
  rcases h with h | h | h | h
  · exact Or.inl (Int32.toInt_inj.mp h)
  · exact Or.inr (Or.inl (Int32.toInt_inj.mp h))
  · exact Or.inr (Or.inr (Or.inl (Int32.toInt_inj.mp h)))
  · exact Or.inr (Or.inr (Or.inr (Int32.toInt_inj.mp h)))
theorem pn_0 : plainName "org/reachwatch/IntBlocksGetPinLaw" = true := by first | (simp [plainName, overriddenIn]; done) | decide +kernel
theorem ef_1 (m : MethodId) (x0 : Int32) (x1 : Int32) (x2 : Int32) (x3 : Int32) (x4 : Int32) (x5 : Int32) : entryFrame m #[(.int x0), (.int x1), (.int x2), (.int x3), (.int x4), (.int x5)] maxLocals = mkF m 0 #[.val (.int x0), .val (.int x1), .val (.int x2), .val (.int x3), .val (.int x4), .val (.int x5), .unset, .unset, .unset, .unset, .unset] [] := by first | (simp [entryFrame, mkF, argsToLocals, Value.category, maxLocals]; done) | rfl
theorem d1_0 : decode prog_56_method_1_code 0 = .ok (.aload_n 0, 1) := by decide +kernel
theorem d1_1 : decode prog_56_method_1_code 1 = .ok (.invokespecial 3, 3) := by decide +kernel
theorem d1_4 : decode prog_56_method_1_code 4 = .ok (.aload_n 0, 1) := by decide +kernel
theorem d1_5 : decode prog_56_method_1_code 5 = .ok (.iconst 1, 1) := by decide +kernel
theorem d1_6 : decode prog_56_method_1_code 6 = .ok (.anewarray 9, 3) := by decide +kernel
theorem d1_9 : decode prog_56_method_1_code 9 = .ok (.putfield 11, 3) := by decide +kernel
theorem d1_12 : decode prog_56_method_1_code 12 = .ok (.return_, 1) := by decide +kernel
theorem pn_2 : plainName "org/reachwatch/IntBlocks" = true := by first | (simp [plainName, overriddenIn]; done) | decide +kernel
theorem ef_3 (m : MethodId) (x0 : Addr) : entryFrame m #[(.ref x0)] 1 = mkF m 0 #[.val (.ref x0)] [] := by first | (simp [entryFrame, mkF, argsToLocals, Value.category]; done) | rfl
def Q_init1_0 (Z : State) (b4 : Addr) (h0 : Heap) (n0 : Nat) (v : Option Value) (h : Heap) (L : List Loc) : Prop := ∃ (b51 : Addr) (k51 : ClassId), v = none ∧ Fr n0 L ∧ Keep h0 h [b4] ∧ Old Z n0 h ∧ Exa Z h b4 "org/reachwatch/IntBlocks" ∧ Fld Z h b4 "org/reachwatch/IntBlocks" "size" "I" (.int (0 : Int32)) ∧ Arv Z h b51 k51 (.array .int) (1 : Int32) [.null] .null ∧ OvrA Z k51 .int "[I" ∧ Exa Z h b51 "[[I" ∧ Fld Z h b4 "org/reachwatch/IntBlocks" "blocks" "[[I" (.ref b51) ∧ (h0.size ≤ b51)
set_option maxRecDepth 65536 in
set_option maxHeartbeats 40000000 in
theorem rm_init1_0 (l : Launch) (Z : State) (a0 : Array Value) (hw : ∀ d ∈ tables_1, d.before a0 Z = true) (ws : List Jvm.Cond) (b4 : Addr) (h0 : Heap) (n0 : Nat) (O0 : Old Z n0 h0) (g_b4 : n0 ≤ b4) (Fi0 : Exa Z h0 b4 "org/reachwatch/IntBlocks") (Fi1 : Fld Z h0 b4 "org/reachwatch/IntBlocks" "blocks" "[[I" .null) (Fi2 : Fld Z h0 b4 "org/reachwatch/IntBlocks" "size" "I" (.int (0 : Int32))) :
    MetFree l (⟨"org/reachwatch/IntBlocks", "<init>", "()V"⟩ : MethodName) (head1 (Jvm.Cond.code (⟨"org/reachwatch/IntBlocks", "<init>", "()V"⟩ : MethodName) prog_56_method_1_code 1 none :: ws) ({ frames := 1, cells := 1, slots := 1, locals := 12 } : Room)) (fun a U => a = #[(.ref b4)] ∧ Z.Warmed39 U.vm ∧ U.heap = h0) (fun _ _ _ _ _ => True) (fun _ U o U' => ∃ v L, o = .returned v ∧ Q_init1_0 Z b4 h0 n0 v U'.heap L ∧ FrameEnd U o U' L ({ frames := 1, cells := 1, slots := 1, locals := 12 } : Room).cells ({ frames := 1, cells := 1, slots := 1, locals := 12 } : Room).slots) := by
  refine MetFree.of_bodySF (plainFor_of_name pn_2) hisR ?_
  intro p e s m args below meth c s₁ Bd hml0 hP hK
  have W := fun {d : Jvm.Cond} (i : Nat) (q : tables_1[i]? = some d) => hw d (List.mem_of_getElem? q)
  obtain ⟨rfl, hZ, hh⟩ := hP
  have hx := Bd.exec
  have hby := Bd.bytes
  have hml : c.maxLocals = 1 := hml0
  have hown : s.vm.findClass "org/reachwatch/IntBlocks" = some m.cls := findClass_of_methodNamed Bd.named
  have hnm := (name_of_methodNamed Bd.named Bd.method).1
  have X0 : Stand p l e ({ frames := 1, cells := 1, slots := 1, locals := 12 } : Room) s m #[(.ref b4)] below meth c s₁ [] 0 0 := Stand.of_body Bd
  have e0 : s₁.heap = h0 := by rw [← hh, Bd.state]; rfl
  have N0 := Fr.nil n0
  have pre0 : ∀ t, Steps p.tables e below (s₁.setTop (mkF m 0 #[rv b4] [])) t → Steps p.tables e below (s₁.setTop (entryFrame m #[(.ref b4)] 1)) t := fun t k => castTop (ef_3 m b4) k
  have K0 : Keep h0 h0 [b4] := Keep.refl h0 [b4]
  have pre47 : ∀ t, Steps p.tables e below (s₁.setTop (mkF m 1 #[rv b4] [(.ref b4)])) t → Steps p.tables e below (s₁.setTop (entryFrame m #[(.ref b4)] 1)) t := fun t kt => by
    refine pre0 _ ?_
    show Steps p.tables e below (s₁.setTop (mkF m 0 #[rv b4] [])) _
    refine XS.aloadN X0.here hx rfl (hb hby d1_0) rfl rfl ?_
    exact kt
  obtain ⟨T48, X48, e48, st48⟩ := initO X0 hx hZ hown (W 6 rfl) (W 7 rfl) (W 8 rfl) e0 (g := (mkF m 1 #[rv b4] [(.ref b4)])) rfl (by rw [hml]; rfl) rfl (hb hby d1_1) (by decide) (W := 0) (by show 2 * 0 + _ ≤ _; exact Nat.le_of_eq rfl) (by decide)
  have pre49 : ∀ t, Steps p.tables e below (T48.setTop (mkF m 4 #[rv b4] [])) t → Steps p.tables e below (s₁.setTop (entryFrame m #[(.ref b4)] 1)) t := fun t kt => pre47 _ (st48 _ kt)
  have pre50 : ∀ t, Steps p.tables e below (T48.setTop (mkF m 6 #[rv b4] [(.int (1 : Int32)), (.ref b4)])) t → Steps p.tables e below (s₁.setTop (entryFrame m #[(.ref b4)] 1)) t := fun t kt => by
    refine pre49 _ ?_
    show Steps p.tables e below (T48.setTop (mkF m 4 #[rv b4] [])) _
    refine XS.aloadN X48.here hx rfl (hb hby d1_4) rfl rfl ?_
    show Steps p.tables e below (T48.setTop (mkF m 5 #[rv b4] [(.ref b4)])) _
    refine XS.iconst X48.here hx rfl (hb hby d1_5) ?_
    exact kt
  obtain ⟨T51, h51, k51, X51, e51, E51, A51, B51, V51, st51⟩ := newRA X48 hx hZ hown (C := "[I") (ty := .int) (by decide) (W 9 rfl) (W 10 rfl) e48 (g := (mkF m 6 #[rv b4] [(.int (1 : Int32)), (.ref b4)])) rfl (hb hby d1_6) rfl (by decide) (cap := 1) (by decide) (by decide) (by decide) (by decide) (ad := "[[I") (by decide)
  obtain ⟨b51, g51⟩ : ∃ z, z = h0.size := ⟨_, rfl⟩
  rw [← g51] at A51 B51 st51
  have pre52 : ∀ t, Steps p.tables e below (T51.setTop (mkF m 9 #[rv b4] [(.ref b51), (.ref b4)])) t → Steps p.tables e below (s₁.setTop (entryFrame m #[(.ref b4)] 1)) t := fun t kt => pre50 _ (st51 _ kt)
  have O51 := O0.ext E51
  have K51 : Keep h0 h51 [b4] := K0.ext E51
  have F53 := Fi0.ext E51
  have F54 := Fi1.ext E51
  have F55 := Fi2.ext E51
  have g_b51 : n0 ≤ b51 := Nat.le_trans (Nat.le_trans (Nat.le_of_eq O0.1.symm) O0.2.1) (Nat.le_of_eq g51.symm)
  have sz_b51 : h0.size ≤ b51 := Nat.le_trans K0.1 (Nat.le_of_eq g51.symm)
  have ne_b4_b51 : b4 ≠ b51 := Nat.ne_of_lt (Nat.lt_of_lt_of_le Fi0.lt (Nat.le_of_eq g51.symm))
  have F56 : Arv Z h51 b51 k51 (.array .int) (1 : Int32) [.null] .null := (Arv.new A51 (by decide)).pad (pad_rep [] .null 1)
  have F57 : Exa Z h51 b51 "[[I" := B51
  obtain ⟨T58, h58, X58, e58, W58, st58⟩ := putF X51 hx hZ hown (host := "") (Or.inl (W 11 rfl)) Via.refl e51 F54 F53 (Or.inl (W 12 rfl)) (W 1 rfl) (ty := (.array (.array .int))) (by decide) rfl rfl (g := (mkF m 9 #[rv b4] [(.ref b51), (.ref b4)])) rfl rfl (hb hby d1_9)
  have pre59 : ∀ t, Steps p.tables e below (T58.setTop (mkF m 12 #[rv b4] [])) t → Steps p.tables e below (s₁.setTop (entryFrame m #[(.ref b4)] 1)) t := fun t kt => pre52 _ (st58 _ kt)
  have N58 := Fr.snoc X58 N0 g_b4
  have O58 := O51.wr W58 g_b4
  have K58 : Keep h0 h58 [b4] := K51.wr W58 (Or.inl (List.mem_of_getElem? (i := 0) rfl))
  have F60 := F53.wr W58
  have F61 := F55.other W58 (Or.inr (slot_ne (Or.inl (W 19 rfl)) (Or.inl (W 12 rfl)) (by decide) (t := .int) (t' := (.array (.array .int))) (by decide) (by decide)))
  have F62 := F56.other W58 (fun q => ne_b4_b51 q.symm)
  have F63 := F57.wr W58
  have F64 : Fld Z h58 b4 "org/reachwatch/IntBlocks" "blocks" "[[I" (.ref b51) := F54.same W58
  obtain ⟨fs, hr, hrun, hended, hW, hsame⟩ := X58.leave (v := none) (fun _ => rfl)
  refine ⟨_, _, pre59 _ (X58.returnOut hx Bd.returns (hb hby d1_12) hr), hrun, hended, _, _, rfl, ?_, ⟨_, rfl⟩, hW, hsame.mono (by decide) (by decide)⟩
  show Q_init1_0 Z b4 h0 n0 _ T58.heap _
  rw [e58]
  exact ⟨b51, k51, rfl, N58, K58, O58, F60, F61, F62, V51, F63, F64, sz_b51⟩
theorem pd_4 : parseMethodDescriptor "()V" = some ⟨[], none⟩ := by decide +kernel
theorem d3_0 : decode prog_56_method_2_code 0 = .ok (.aload_n 0, 1) := by decide +kernel
theorem d3_1 : decode prog_56_method_2_code 1 = .ok (.getfield 17, 3) := by decide +kernel
theorem d3_4 : decode prog_56_method_2_code 4 = .ok (.ldc 21, 2) := by decide +kernel
theorem d3_6 : decode prog_56_method_2_code 6 = .ok (.idiv, 1) := by decide +kernel
theorem d3_7 : decode prog_56_method_2_code 7 = .ok (.istore_n 2, 1) := by decide +kernel
theorem d3_8 : decode prog_56_method_2_code 8 = .ok (.aload_n 0, 1) := by decide +kernel
theorem d3_9 : decode prog_56_method_2_code 9 = .ok (.getfield 17, 3) := by decide +kernel
theorem d3_12 : decode prog_56_method_2_code 12 = .ok (.ldc 21, 2) := by decide +kernel
theorem d3_14 : decode prog_56_method_2_code 14 = .ok (.irem, 1) := by decide +kernel
theorem d3_15 : decode prog_56_method_2_code 15 = .ok (.istore_n 3, 1) := by decide +kernel
theorem d3_16 : decode prog_56_method_2_code 16 = .ok (.iload_n 2, 1) := by decide +kernel
theorem d3_17 : decode prog_56_method_2_code 17 = .ok (.aload_n 0, 1) := by decide +kernel
theorem d3_18 : decode prog_56_method_2_code 18 = .ok (.getfield 11, 3) := by decide +kernel
theorem d3_21 : decode prog_56_method_2_code 21 = .ok (.arraylength, 1) := by decide +kernel
theorem d3_22 : decode prog_56_method_2_code 22 = .ok (.if_icmp .ne 20, 3) := by decide +kernel
theorem d3_42 : decode prog_56_method_2_code 42 = .ok (.aload_n 0, 1) := by decide +kernel
theorem d3_43 : decode prog_56_method_2_code 43 = .ok (.getfield 11, 3) := by decide +kernel
theorem d3_46 : decode prog_56_method_2_code 46 = .ok (.iload_n 2, 1) := by decide +kernel
theorem d3_47 : decode prog_56_method_2_code 47 = .ok (.aaload, 1) := by decide +kernel
theorem d3_48 : decode prog_56_method_2_code 48 = .ok (.ifnonnull 25, 3) := by decide +kernel
theorem d3_51 : decode prog_56_method_2_code 51 = .ok (.aload_n 0, 1) := by decide +kernel
theorem d3_52 : decode prog_56_method_2_code 52 = .ok (.getfield 11, 3) := by decide +kernel
theorem d3_55 : decode prog_56_method_2_code 55 = .ok (.iload_n 2, 1) := by decide +kernel
theorem d3_56 : decode prog_56_method_2_code 56 = .ok (.iload_n 2, 1) := by decide +kernel
theorem d3_57 : decode prog_56_method_2_code 57 = .ok (.ifCond .ne 8, 3) := by decide +kernel
theorem d3_60 : decode prog_56_method_2_code 60 = .ok (.bipush 16, 2) := by decide +kernel
theorem d3_62 : decode prog_56_method_2_code 62 = .ok (.goto 5, 3) := by decide +kernel
theorem d3_67 : decode prog_56_method_2_code 67 = .ok (.newarray .int, 2) := by decide +kernel
theorem d3_69 : decode prog_56_method_2_code 69 = .ok (.aastore, 1) := by decide +kernel
theorem d3_70 : decode prog_56_method_2_code 70 = .ok (.goto 32, 3) := by decide +kernel
theorem d3_102 : decode prog_56_method_2_code 102 = .ok (.aload_n 0, 1) := by decide +kernel
theorem d3_103 : decode prog_56_method_2_code 103 = .ok (.getfield 11, 3) := by decide +kernel
theorem d3_106 : decode prog_56_method_2_code 106 = .ok (.iload_n 2, 1) := by decide +kernel
theorem d3_107 : decode prog_56_method_2_code 107 = .ok (.aaload, 1) := by decide +kernel
theorem d3_108 : decode prog_56_method_2_code 108 = .ok (.iload_n 3, 1) := by decide +kernel
theorem d3_109 : decode prog_56_method_2_code 109 = .ok (.iload_n 1, 1) := by decide +kernel
theorem d3_110 : decode prog_56_method_2_code 110 = .ok (.iastore, 1) := by decide +kernel
theorem d3_111 : decode prog_56_method_2_code 111 = .ok (.aload_n 0, 1) := by decide +kernel
theorem d3_112 : decode prog_56_method_2_code 112 = .ok (.dup, 1) := by decide +kernel
theorem d3_113 : decode prog_56_method_2_code 113 = .ok (.getfield 17, 3) := by decide +kernel
theorem d3_116 : decode prog_56_method_2_code 116 = .ok (.iconst 1, 1) := by decide +kernel
theorem d3_117 : decode prog_56_method_2_code 117 = .ok (.iadd, 1) := by decide +kernel
theorem d3_118 : decode prog_56_method_2_code 118 = .ok (.putfield 17, 3) := by decide +kernel
theorem d3_121 : decode prog_56_method_2_code 121 = .ok (.return_, 1) := by decide +kernel
theorem ef_5 (m : MethodId) (x0 : Addr) (x1 : Int32) : entryFrame m #[(.ref x0), (.int x1)] 4 = mkF m 0 #[.val (.ref x0), .val (.int x1), .unset, .unset] [] := by first | (simp [entryFrame, mkF, argsToLocals, Value.category]; done) | rfl
def Q_add3_0 (Z : State) (b4 : Addr) (p0 : Int32) (b51_10 : Addr) (k51_10 : ClassId) (h0 : Heap) (n0 : Nat) (v : Option Value) (h : Heap) (L : List Loc) : Prop := ∃ (b221 : Addr) (k221 : ClassId), v = none ∧ Fr n0 L ∧ Keep h0 h [b4, b51_10] ∧ Old Z n0 h ∧ Exa Z h b4 "org/reachwatch/IntBlocks" ∧ Exa Z h b51_10 "[[I" ∧ Fld Z h b4 "org/reachwatch/IntBlocks" "blocks" "[[I" (.ref b51_10) ∧ Exa Z h b221 "[I" ∧ Arv Z h b51_10 k51_10 (.array .int) (1 : Int32) [(.ref b221)] .null ∧ Arv Z h b221 k221 .int (16 : Int32) [(.int p0), (.int (0 : Int32)), (.int (0 : Int32)), (.int (0 : Int32)), (.int (0 : Int32)), (.int (0 : Int32)), (.int (0 : Int32)), (.int (0 : Int32)), (.int (0 : Int32)), (.int (0 : Int32)), (.int (0 : Int32)), (.int (0 : Int32)), (.int (0 : Int32)), (.int (0 : Int32)), (.int (0 : Int32)), (.int (0 : Int32))] (.int (0 : Int32)) ∧ Fld Z h b4 "org/reachwatch/IntBlocks" "size" "I" (.int (1 : Int32)) ∧ (h0.size ≤ b221)
set_option maxRecDepth 65536 in
set_option maxHeartbeats 40000000 in
theorem rm_add3_0 (l : Launch) (Z : State) (a0 : Array Value) (hw : ∀ d ∈ tables_1, d.before a0 Z = true) (ws : List Jvm.Cond) (b4 : Addr) (p0 : Int32) (b51_10 : Addr) (k51_10 : ClassId) (h0 : Heap) (n0 : Nat) (O0 : Old Z n0 h0) (g_b4 : n0 ≤ b4) (g_b51_10 : n0 ≤ b51_10) (Fi0 : Exa Z h0 b4 "org/reachwatch/IntBlocks") (Fi1 : Fld Z h0 b4 "org/reachwatch/IntBlocks" "size" "I" (.int (0 : Int32))) (Fi2 : Arv Z h0 b51_10 k51_10 (.array .int) (1 : Int32) [.null] .null) (Fi3 : OvrA Z k51_10 .int "[I") (Fi4 : Exa Z h0 b51_10 "[[I") (Fi5 : Fld Z h0 b4 "org/reachwatch/IntBlocks" "blocks" "[[I" (.ref b51_10)) (q0 : ¬ (b51_10 = b4)) :
    MetFree l (⟨"org/reachwatch/IntBlocks", "add", "(I)V"⟩ : MethodName) (head1 (Jvm.Cond.code (⟨"org/reachwatch/IntBlocks", "add", "(I)V"⟩ : MethodName) prog_56_method_2_code 4 none :: ws) ({ frames := 0, cells := 1, slots := 16, locals := 0 } : Room)) (fun a U => a = #[(.ref b4), (.int p0)] ∧ Z.Warmed39 U.vm ∧ U.heap = h0) (fun _ _ _ _ _ => True) (fun _ U o U' => ∃ v L, o = .returned v ∧ Q_add3_0 Z b4 p0 b51_10 k51_10 h0 n0 v U'.heap L ∧ FrameEnd U o U' L ({ frames := 0, cells := 1, slots := 16, locals := 0 } : Room).cells ({ frames := 0, cells := 1, slots := 16, locals := 0 } : Room).slots) := by
  refine MetFree.of_bodySF (plainFor_of_name pn_2) hisR ?_
  intro p e s m args below meth c s₁ Bd hml0 hP hK
  have W := fun {d : Jvm.Cond} (i : Nat) (q : tables_1[i]? = some d) => hw d (List.mem_of_getElem? q)
  obtain ⟨rfl, hZ, hh⟩ := hP
  have hx := Bd.exec
  have hby := Bd.bytes
  have hml : c.maxLocals = 4 := hml0
  have hown : s.vm.findClass "org/reachwatch/IntBlocks" = some m.cls := findClass_of_methodNamed Bd.named
  have hnm := (name_of_methodNamed Bd.named Bd.method).1
  have X0 : Stand p l e ({ frames := 0, cells := 1, slots := 16, locals := 0 } : Room) s m #[(.ref b4), (.int p0)] below meth c s₁ [] 0 0 := Stand.of_body Bd
  have e0 : s₁.heap = h0 := by rw [← hh, Bd.state]; rfl
  have N0 := Fr.nil n0
  have pre0 : ∀ t, Steps p.tables e below (s₁.setTop (mkF m 0 #[rv b4, iv p0, .unset, .unset] [])) t → Steps p.tables e below (s₁.setTop (entryFrame m #[(.ref b4), (.int p0)] 4)) t := fun t k => castTop (ef_5 m b4 p0) k
  have K0 : Keep h0 h0 [b4, b51_10] := Keep.refl h0 [b4, b51_10]
  have pre202 : ∀ t, Steps p.tables e below (s₁.setTop (mkF m 1 #[rv b4, iv p0, .unset, .unset] [(.ref b4)])) t → Steps p.tables e below (s₁.setTop (entryFrame m #[(.ref b4), (.int p0)] 4)) t := fun t kt => by
    refine pre0 _ ?_
    show Steps p.tables e below (s₁.setTop (mkF m 0 #[rv b4, iv p0, .unset, .unset] [])) _
    refine XS.aloadN X0.here hx rfl (hb hby d3_0) rfl rfl ?_
    exact kt
  obtain ⟨T203, X203, e203, st203⟩ := getF X0 hx hZ hown (host := "") (Or.inl (W 18 rfl)) Via.refl e0 Fi1 (g := (mkF m 1 #[rv b4, iv p0, .unset, .unset] [(.ref b4)])) rfl rfl (hb hby d3_1)
  have pre204 : ∀ t, Steps p.tables e below (T203.setTop (mkF m 4 #[rv b4, iv p0, .unset, .unset] [(.int (0 : Int32))])) t → Steps p.tables e below (s₁.setTop (entryFrame m #[(.ref b4), (.int p0)] 4)) t := fun t kt => pre202 _ (st203 _ kt)
  have pre205 : ∀ t, Steps p.tables e below (T203.setTop (mkF m 9 #[rv b4, iv p0, iv (0 : Int32), .unset] [(.ref b4)])) t → Steps p.tables e below (s₁.setTop (entryFrame m #[(.ref b4), (.int p0)] 4)) t := fun t kt => by
    refine pre204 _ ?_
    show Steps p.tables e below (T203.setTop (mkF m 4 #[rv b4, iv p0, .unset, .unset] [(.int (0 : Int32))])) _
    refine X203.ldcInt hx hown (mvT hZ (W 20 rfl)) (g := (mkF m 4 #[rv b4, iv p0, .unset, .unset] [(.int (0 : Int32))])) rfl (hb hby d3_4) _ ?_
    show Steps p.tables e below (T203.setTop (mkF m 6 #[rv b4, iv p0, .unset, .unset] [(.int (65536 : Int32)), (.int (0 : Int32))])) _
    refine XS.idiv X203.here hx rfl (hb hby d3_6) rfl (by decide) ?_
    show  Steps p.tables e below (T203.setTop (mkF m 7 #[rv b4, iv p0, .unset, .unset] [(.int ((0 : Int32) / (65536 : Int32)))])) _
    rw [(by decide : (((0 : Int32) / (65536 : Int32)) : Int32) = (0 : Int32))]
    show Steps p.tables e below (T203.setTop (mkF m 7 #[rv b4, iv p0, .unset, .unset] [(.int (0 : Int32))])) _
    refine XS.istoreN X203.here hx rfl (hb hby d3_7) rfl (l' := #[rv b4, iv p0, iv (0 : Int32), .unset]) rfl ?_
    show Steps p.tables e below (T203.setTop (mkF m 8 #[rv b4, iv p0, iv (0 : Int32), .unset] [])) _
    refine XS.aloadN X203.here hx rfl (hb hby d3_8) rfl rfl ?_
    exact kt
  obtain ⟨T206, X206, e206, st206⟩ := getF X203 hx hZ hown (host := "") (Or.inl (W 18 rfl)) Via.refl e203 Fi1 (g := (mkF m 9 #[rv b4, iv p0, iv (0 : Int32), .unset] [(.ref b4)])) rfl rfl (hb hby d3_9)
  have pre207 : ∀ t, Steps p.tables e below (T206.setTop (mkF m 12 #[rv b4, iv p0, iv (0 : Int32), .unset] [(.int (0 : Int32))])) t → Steps p.tables e below (s₁.setTop (entryFrame m #[(.ref b4), (.int p0)] 4)) t := fun t kt => pre205 _ (st206 _ kt)
  have pre208 : ∀ t, Steps p.tables e below (T206.setTop (mkF m 18 #[rv b4, iv p0, iv (0 : Int32), iv (0 : Int32)] [(.ref b4), (.int (0 : Int32))])) t → Steps p.tables e below (s₁.setTop (entryFrame m #[(.ref b4), (.int p0)] 4)) t := fun t kt => by
    refine pre207 _ ?_
    show Steps p.tables e below (T206.setTop (mkF m 12 #[rv b4, iv p0, iv (0 : Int32), .unset] [(.int (0 : Int32))])) _
    refine X206.ldcInt hx hown (mvT hZ (W 20 rfl)) (g := (mkF m 12 #[rv b4, iv p0, iv (0 : Int32), .unset] [(.int (0 : Int32))])) rfl (hb hby d3_12) _ ?_
    show Steps p.tables e below (T206.setTop (mkF m 14 #[rv b4, iv p0, iv (0 : Int32), .unset] [(.int (65536 : Int32)), (.int (0 : Int32))])) _
    refine XS.irem X206.here hx rfl (hb hby d3_14) rfl (by decide) ?_
    show  Steps p.tables e below (T206.setTop (mkF m 15 #[rv b4, iv p0, iv (0 : Int32), .unset] [(.int ((0 : Int32) - ((0 : Int32) / (65536 : Int32)) * (65536 : Int32)))])) _
    rw [(by decide : (((0 : Int32) - ((0 : Int32) / (65536 : Int32)) * (65536 : Int32)) : Int32) = (0 : Int32))]
    show Steps p.tables e below (T206.setTop (mkF m 15 #[rv b4, iv p0, iv (0 : Int32), .unset] [(.int (0 : Int32))])) _
    refine XS.istoreN X206.here hx rfl (hb hby d3_15) rfl (l' := #[rv b4, iv p0, iv (0 : Int32), iv (0 : Int32)]) rfl ?_
    show Steps p.tables e below (T206.setTop (mkF m 16 #[rv b4, iv p0, iv (0 : Int32), iv (0 : Int32)] [])) _
    refine XS.iloadN X206.here hx rfl (hb hby d3_16) rfl ?_
    show Steps p.tables e below (T206.setTop (mkF m 17 #[rv b4, iv p0, iv (0 : Int32), iv (0 : Int32)] [(.int (0 : Int32))])) _
    refine XS.aloadN X206.here hx rfl (hb hby d3_17) rfl rfl ?_
    exact kt
  obtain ⟨T209, X209, e209, st209⟩ := getF X206 hx hZ hown (host := "") (Or.inl (W 11 rfl)) Via.refl e206 Fi5 (g := (mkF m 18 #[rv b4, iv p0, iv (0 : Int32), iv (0 : Int32)] [(.ref b4), (.int (0 : Int32))])) rfl rfl (hb hby d3_18)
  have pre210 : ∀ t, Steps p.tables e below (T209.setTop (mkF m 21 #[rv b4, iv p0, iv (0 : Int32), iv (0 : Int32)] [(.ref b51_10), (.int (0 : Int32))])) t → Steps p.tables e below (s₁.setTop (entryFrame m #[(.ref b4), (.int p0)] 4)) t := fun t kt => pre208 _ (st209 _ kt)
  obtain ⟨c211, Ar211, -, S211, M211, -, -⟩ := id Fi2
  have pre212 : ∀ t, Steps p.tables e below (T209.setTop (mkF m 43 #[rv b4, iv p0, iv (0 : Int32), iv (0 : Int32)] [(.ref b4)])) t → Steps p.tables e below (s₁.setTop (entryFrame m #[(.ref b4), (.int p0)] 4)) t := fun t kt => by
    refine pre210 _ ?_
    show Steps p.tables e below (T209.setTop (mkF m 21 #[rv b4, iv p0, iv (0 : Int32), iv (0 : Int32)] [(.ref b51_10), (.int (0 : Int32))])) _
    refine X209.arraylength hx (by rw [e209]; exact Ar211.1) (State.isArrayOf_alike hZ.alike Ar211.2.1) (g := (mkF m 21 #[rv b4, iv p0, iv (0 : Int32), iv (0 : Int32)] [(.ref b51_10), (.int (0 : Int32))])) rfl rfl (hb hby d3_21) _ ?_
    rw [len_of S211 M211]
    show Steps p.tables e below (T209.setTop (mkF m 22 #[rv b4, iv p0, iv (0 : Int32), iv (0 : Int32)] [(.int (1 : Int32)), (.int (0 : Int32))])) _
    refine XS.icmpYes X209.here hx rfl (pc0 := 22) (pc' := 42) rfl (hb hby d3_22) rfl (XT.ii_ne_t (by decide)) (by decide) (by decide) ?_
    show Steps p.tables e below (T209.setTop (mkF m 42 #[rv b4, iv p0, iv (0 : Int32), iv (0 : Int32)] [])) _
    refine XS.aloadN X209.here hx rfl (hb hby d3_42) rfl rfl ?_
    exact kt
  obtain ⟨T213, X213, e213, st213⟩ := getF X209 hx hZ hown (host := "") (Or.inl (W 11 rfl)) Via.refl e209 Fi5 (g := (mkF m 43 #[rv b4, iv p0, iv (0 : Int32), iv (0 : Int32)] [(.ref b4)])) rfl rfl (hb hby d3_43)
  have pre214 : ∀ t, Steps p.tables e below (T213.setTop (mkF m 46 #[rv b4, iv p0, iv (0 : Int32), iv (0 : Int32)] [(.ref b51_10)])) t → Steps p.tables e below (s₁.setTop (entryFrame m #[(.ref b4), (.int p0)] 4)) t := fun t kt => pre212 _ (st213 _ kt)
  have pre216 : ∀ t, Steps p.tables e below (T213.setTop (mkF m 47 #[rv b4, iv p0, iv (0 : Int32), iv (0 : Int32)] [(.int (0 : Int32)), (.ref b51_10)])) t → Steps p.tables e below (s₁.setTop (entryFrame m #[(.ref b4), (.int p0)] 4)) t := fun t kt => by
    refine pre214 _ ?_
    show Steps p.tables e below (T213.setTop (mkF m 46 #[rv b4, iv p0, iv (0 : Int32), iv (0 : Int32)] [(.ref b51_10)])) _
    refine XS.iloadN X213.here hx rfl (hb hby d3_46) rfl ?_
    exact kt
  obtain ⟨c215, Ar215, q215, S215, M215, H215, G215⟩ := id Fi2
  have i215 : ¬ ((0 : Int32) < 0 ∨ c215.slots.size ≤ ((0 : Int32)).toNatClampNeg) := inb_of S215 ⟨by decide, by decide⟩
  have t215 : c215.slots[((0 : Int32)).toNatClampNeg]? = some .null := Has.at H215 i215 rfl
  have pre217 : ∀ t, Steps p.tables e below (T213.setTop (mkF m 52 #[rv b4, iv p0, iv (0 : Int32), iv (0 : Int32)] [(.ref b4)])) t → Steps p.tables e below (s₁.setTop (entryFrame m #[(.ref b4), (.int p0)] 4)) t := fun t kt => by
    refine pre216 _ ?_
    show Steps p.tables e below (T213.setTop (mkF m 47 #[rv b4, iv p0, iv (0 : Int32), iv (0 : Int32)] [(.int (0 : Int32)), (.ref b51_10)])) _
    refine X213.aaload hx (j := (0 : Int32)) (v := .null) (by rw [e213]; exact Ar215.1) (State.isArrayOf_alike hZ.alike Ar215.2.1) rfl Ar215.2.2 i215 t215 (g := (mkF m 47 #[rv b4, iv p0, iv (0 : Int32), iv (0 : Int32)] [(.int (0 : Int32)), (.ref b51_10)])) rfl rfl (hb hby d3_47) _ ?_
    show Steps p.tables e below (T213.setTop (mkF m 48 #[rv b4, iv p0, iv (0 : Int32), iv (0 : Int32)] [.null])) _
    refine XS.ifnonnullNo X213.here hx rfl (hb hby d3_48) rfl ?_
    show Steps p.tables e below (T213.setTop (mkF m 51 #[rv b4, iv p0, iv (0 : Int32), iv (0 : Int32)] [])) _
    refine XS.aloadN X213.here hx rfl (hb hby d3_51) rfl rfl ?_
    exact kt
  obtain ⟨T218, X218, e218, st218⟩ := getF X213 hx hZ hown (host := "") (Or.inl (W 11 rfl)) Via.refl e213 Fi5 (g := (mkF m 52 #[rv b4, iv p0, iv (0 : Int32), iv (0 : Int32)] [(.ref b4)])) rfl rfl (hb hby d3_52)
  have pre219 : ∀ t, Steps p.tables e below (T218.setTop (mkF m 55 #[rv b4, iv p0, iv (0 : Int32), iv (0 : Int32)] [(.ref b51_10)])) t → Steps p.tables e below (s₁.setTop (entryFrame m #[(.ref b4), (.int p0)] 4)) t := fun t kt => pre217 _ (st218 _ kt)
  have pre220 : ∀ t, Steps p.tables e below (T218.setTop (mkF m 67 #[rv b4, iv p0, iv (0 : Int32), iv (0 : Int32)] [(.int (16 : Int32)), (.int (0 : Int32)), (.ref b51_10)])) t → Steps p.tables e below (s₁.setTop (entryFrame m #[(.ref b4), (.int p0)] 4)) t := fun t kt => by
    refine pre219 _ ?_
    show Steps p.tables e below (T218.setTop (mkF m 55 #[rv b4, iv p0, iv (0 : Int32), iv (0 : Int32)] [(.ref b51_10)])) _
    refine XS.iloadN X218.here hx rfl (hb hby d3_55) rfl ?_
    show Steps p.tables e below (T218.setTop (mkF m 56 #[rv b4, iv p0, iv (0 : Int32), iv (0 : Int32)] [(.int (0 : Int32)), (.ref b51_10)])) _
    refine XS.iloadN X218.here hx rfl (hb hby d3_56) rfl ?_
    show Steps p.tables e below (T218.setTop (mkF m 57 #[rv b4, iv p0, iv (0 : Int32), iv (0 : Int32)] [(.int (0 : Int32)), (.int (0 : Int32)), (.ref b51_10)])) _
    refine XS.ifNo X218.here hx rfl (hb hby d3_57) rfl (XT.i0_ne_f (by decide)) ?_
    show Steps p.tables e below (T218.setTop (mkF m 60 #[rv b4, iv p0, iv (0 : Int32), iv (0 : Int32)] [(.int (0 : Int32)), (.ref b51_10)])) _
    refine XS.bipush X218.here hx rfl (hb hby d3_60) ?_
    show Steps p.tables e below (T218.setTop (mkF m 62 #[rv b4, iv p0, iv (0 : Int32), iv (0 : Int32)] [(.int (16 : Int32)), (.int (0 : Int32)), (.ref b51_10)])) _
    refine XS.goto X218.here hx rfl (pc0 := 62) (pc' := 67) rfl (hb hby d3_62) (by decide) (by decide) ?_
    exact kt
  obtain ⟨T221, h221, k221, X221, e221, E221, A221, B221, st221⟩ := newPE X218 hx hZ (W 21 rfl) e218 (g := (mkF m 67 #[rv b4, iv p0, iv (0 : Int32), iv (0 : Int32)] [(.int (16 : Int32)), (.int (0 : Int32)), (.ref b51_10)])) rfl (hb hby d3_67) rfl (by decide) (cap := 16) (by decide) (by decide) (by decide) (by decide) (ad := "[I") (by decide)
  obtain ⟨b221, g221⟩ : ∃ z, z = h0.size := ⟨_, rfl⟩
  rw [← g221] at A221 B221 st221
  have pre222 : ∀ t, Steps p.tables e below (T221.setTop (mkF m 69 #[rv b4, iv p0, iv (0 : Int32), iv (0 : Int32)] [(.ref b221), (.int (0 : Int32)), (.ref b51_10)])) t → Steps p.tables e below (s₁.setTop (entryFrame m #[(.ref b4), (.int p0)] 4)) t := fun t kt => pre220 _ (st221 _ kt)
  have O221 := O0.ext E221
  have K221 : Keep h0 h221 [b4, b51_10] := K0.ext E221
  have F223 := Fi0.ext E221
  have F224 := Fi1.ext E221
  have F225 := Fi2.ext E221
  have F226 := Fi4.ext E221
  have F227 := Fi5.ext E221
  have g_b221 : n0 ≤ b221 := Nat.le_trans (Nat.le_trans (Nat.le_of_eq O0.1.symm) O0.2.1) (Nat.le_of_eq g221.symm)
  have sz_b221 : h0.size ≤ b221 := Nat.le_trans K0.1 (Nat.le_of_eq g221.symm)
  have ne_b4_b221 : b4 ≠ b221 := Nat.ne_of_lt (Nat.lt_of_lt_of_le Fi0.lt (Nat.le_of_eq g221.symm))
  have ne_b51_10_b221 : b51_10 ≠ b221 := Nat.ne_of_lt (Nat.lt_of_lt_of_le Fi2.lt (Nat.le_of_eq g221.symm))
  have F228 : Exa Z h221 b221 "[I" := B221
  have F229 : Arv Z h221 b221 k221 .int (16 : Int32) [(.int (0 : Int32)), (.int (0 : Int32)), (.int (0 : Int32)), (.int (0 : Int32)), (.int (0 : Int32)), (.int (0 : Int32)), (.int (0 : Int32)), (.int (0 : Int32)), (.int (0 : Int32)), (.int (0 : Int32)), (.int (0 : Int32)), (.int (0 : Int32)), (.int (0 : Int32)), (.int (0 : Int32)), (.int (0 : Int32)), (.int (0 : Int32))] (.int (0 : Int32)) := (Arv.new A221 (by decide)).pad (pad_rep [] (.int (0 : Int32)) 16)
  obtain ⟨c230, Ar230, q230, S230, M230, H230, G230⟩ := id F225
  have i230 : ¬ ((0 : Int32) < 0 ∨ c230.slots.size ≤ ((0 : Int32)).toNatClampNeg) := inb_of S230 ⟨by decide, by decide⟩
  obtain ⟨T231, h231, X231, e231, W231, st231⟩ := stR X221 hx hZ e221 Ar230 (j := (0 : Int32)) i230 rfl (Sto.ofVA Ar230 q230 Fi3 (Ins.self F228)) (g := (mkF m 69 #[rv b4, iv p0, iv (0 : Int32), iv (0 : Int32)] [(.ref b221), (.int (0 : Int32)), (.ref b51_10)])) rfl rfl (hb hby d3_69)
  have pre232 : ∀ t, Steps p.tables e below (T231.setTop (mkF m 70 #[rv b4, iv p0, iv (0 : Int32), iv (0 : Int32)] [])) t → Steps p.tables e below (s₁.setTop (entryFrame m #[(.ref b4), (.int p0)] 4)) t := fun t kt => pre222 _ (st231 _ kt)
  have N231 := Fr.snoc X231 N0 g_b51_10
  have O231 := O221.wr W231 g_b51_10
  have K231 : Keep h0 h231 [b4, b51_10] := K221.wr W231 (Or.inl (List.mem_of_getElem? (i := 1) rfl))
  have F233 := F223.wr W231
  have F234 := F224.other W231 (Or.inl (fun q => q0 q.symm))
  have F235 := F226.wr W231
  have F236 := F227.other W231 (Or.inl (fun q => q0 q.symm))
  have F237 := F228.wr W231
  have F238 := F229.other W231 (fun q => ne_b51_10_b221 q.symm)
  have F239 : Arv Z h231 b51_10 k51_10 (.array .int) (1 : Int32) [(.ref b221)] .null := Arv.set Ar230 q230 S230 M230 H230 G230 rfl W231 0 rfl (Nat.le_of_ble_eq_true rfl)
  have pre240 : ∀ t, Steps p.tables e below (T231.setTop (mkF m 103 #[rv b4, iv p0, iv (0 : Int32), iv (0 : Int32)] [(.ref b4)])) t → Steps p.tables e below (s₁.setTop (entryFrame m #[(.ref b4), (.int p0)] 4)) t := fun t kt => by
    refine pre232 _ ?_
    show Steps p.tables e below (T231.setTop (mkF m 70 #[rv b4, iv p0, iv (0 : Int32), iv (0 : Int32)] [])) _
    refine XS.goto X231.here hx rfl (pc0 := 70) (pc' := 102) rfl (hb hby d3_70) (by decide) (by decide) ?_
    show Steps p.tables e below (T231.setTop (mkF m 102 #[rv b4, iv p0, iv (0 : Int32), iv (0 : Int32)] [])) _
    refine XS.aloadN X231.here hx rfl (hb hby d3_102) rfl rfl ?_
    exact kt
  obtain ⟨T241, X241, e241, st241⟩ := getF X231 hx hZ hown (host := "") (Or.inl (W 11 rfl)) Via.refl e231 F236 (g := (mkF m 103 #[rv b4, iv p0, iv (0 : Int32), iv (0 : Int32)] [(.ref b4)])) rfl rfl (hb hby d3_103)
  have pre242 : ∀ t, Steps p.tables e below (T241.setTop (mkF m 106 #[rv b4, iv p0, iv (0 : Int32), iv (0 : Int32)] [(.ref b51_10)])) t → Steps p.tables e below (s₁.setTop (entryFrame m #[(.ref b4), (.int p0)] 4)) t := fun t kt => pre240 _ (st241 _ kt)
  have pre244 : ∀ t, Steps p.tables e below (T241.setTop (mkF m 107 #[rv b4, iv p0, iv (0 : Int32), iv (0 : Int32)] [(.int (0 : Int32)), (.ref b51_10)])) t → Steps p.tables e below (s₁.setTop (entryFrame m #[(.ref b4), (.int p0)] 4)) t := fun t kt => by
    refine pre242 _ ?_
    show Steps p.tables e below (T241.setTop (mkF m 106 #[rv b4, iv p0, iv (0 : Int32), iv (0 : Int32)] [(.ref b51_10)])) _
    refine XS.iloadN X241.here hx rfl (hb hby d3_106) rfl ?_
    exact kt
  obtain ⟨c243, Ar243, q243, S243, M243, H243, G243⟩ := id F239
  have i243 : ¬ ((0 : Int32) < 0 ∨ c243.slots.size ≤ ((0 : Int32)).toNatClampNeg) := inb_of S243 ⟨by decide, by decide⟩
  have t243 : c243.slots[((0 : Int32)).toNatClampNeg]? = some (.ref b221) := Has.at H243 i243 rfl
  have pre245 : ∀ t, Steps p.tables e below (T241.setTop (mkF m 110 #[rv b4, iv p0, iv (0 : Int32), iv (0 : Int32)] [(.int p0), (.int (0 : Int32)), (.ref b221)])) t → Steps p.tables e below (s₁.setTop (entryFrame m #[(.ref b4), (.int p0)] 4)) t := fun t kt => by
    refine pre244 _ ?_
    show Steps p.tables e below (T241.setTop (mkF m 107 #[rv b4, iv p0, iv (0 : Int32), iv (0 : Int32)] [(.int (0 : Int32)), (.ref b51_10)])) _
    refine X241.aaload hx (j := (0 : Int32)) (v := (.ref b221)) (by rw [e241]; exact Ar243.1) (State.isArrayOf_alike hZ.alike Ar243.2.1) rfl Ar243.2.2 i243 t243 (g := (mkF m 107 #[rv b4, iv p0, iv (0 : Int32), iv (0 : Int32)] [(.int (0 : Int32)), (.ref b51_10)])) rfl rfl (hb hby d3_107) _ ?_
    show Steps p.tables e below (T241.setTop (mkF m 108 #[rv b4, iv p0, iv (0 : Int32), iv (0 : Int32)] [(.ref b221)])) _
    refine XS.iloadN X241.here hx rfl (hb hby d3_108) rfl ?_
    show Steps p.tables e below (T241.setTop (mkF m 109 #[rv b4, iv p0, iv (0 : Int32), iv (0 : Int32)] [(.int (0 : Int32)), (.ref b221)])) _
    refine XS.iloadN X241.here hx rfl (hb hby d3_109) rfl ?_
    exact kt
  obtain ⟨c246, Ar246, q246, S246, M246, H246, G246⟩ := id F238
  have i246 : ¬ ((0 : Int32) < 0 ∨ c246.slots.size ≤ ((0 : Int32)).toNatClampNeg) := inb_of S246 ⟨by decide, by decide⟩
  obtain ⟨T247, h247, X247, e247, W247, st247⟩ := stI X241 hx hZ e241 Ar246 (j := (0 : Int32)) i246 (g := (mkF m 110 #[rv b4, iv p0, iv (0 : Int32), iv (0 : Int32)] [(.int p0), (.int (0 : Int32)), (.ref b221)])) rfl rfl (hb hby d3_110)
  have pre248 : ∀ t, Steps p.tables e below (T247.setTop (mkF m 111 #[rv b4, iv p0, iv (0 : Int32), iv (0 : Int32)] [])) t → Steps p.tables e below (s₁.setTop (entryFrame m #[(.ref b4), (.int p0)] 4)) t := fun t kt => pre245 _ (st247 _ kt)
  have N247 := Fr.snoc X247 N231 g_b221
  have O247 := O231.wr W247 g_b221
  have K247 : Keep h0 h247 [b4, b51_10] := K231.wr W247 (Or.inr sz_b221)
  have F249 := F233.wr W247
  have F250 := F234.other W247 (Or.inl ne_b4_b221)
  have F251 := F235.wr W247
  have F252 := F236.other W247 (Or.inl ne_b4_b221)
  have F253 := F237.wr W247
  have F254 := F239.other W247 ne_b51_10_b221
  have F255 : Arv Z h247 b221 k221 .int (16 : Int32) [(.int p0), (.int (0 : Int32)), (.int (0 : Int32)), (.int (0 : Int32)), (.int (0 : Int32)), (.int (0 : Int32)), (.int (0 : Int32)), (.int (0 : Int32)), (.int (0 : Int32)), (.int (0 : Int32)), (.int (0 : Int32)), (.int (0 : Int32)), (.int (0 : Int32)), (.int (0 : Int32)), (.int (0 : Int32)), (.int (0 : Int32))] (.int (0 : Int32)) := Arv.set Ar246 q246 S246 M246 H246 G246 rfl W247 0 rfl (Nat.le_of_ble_eq_true rfl)
  have pre256 : ∀ t, Steps p.tables e below (T247.setTop (mkF m 113 #[rv b4, iv p0, iv (0 : Int32), iv (0 : Int32)] [(.ref b4), (.ref b4)])) t → Steps p.tables e below (s₁.setTop (entryFrame m #[(.ref b4), (.int p0)] 4)) t := fun t kt => by
    refine pre248 _ ?_
    show Steps p.tables e below (T247.setTop (mkF m 111 #[rv b4, iv p0, iv (0 : Int32), iv (0 : Int32)] [])) _
    refine XS.aloadN X247.here hx rfl (hb hby d3_111) rfl rfl ?_
    show Steps p.tables e below (T247.setTop (mkF m 112 #[rv b4, iv p0, iv (0 : Int32), iv (0 : Int32)] [(.ref b4)])) _
    refine XS.dup X247.here hx rfl (hb hby d3_112) rfl rfl ?_
    exact kt
  obtain ⟨T257, X257, e257, st257⟩ := getF X247 hx hZ hown (host := "") (Or.inl (W 18 rfl)) Via.refl e247 F250 (g := (mkF m 113 #[rv b4, iv p0, iv (0 : Int32), iv (0 : Int32)] [(.ref b4), (.ref b4)])) rfl rfl (hb hby d3_113)
  have pre258 : ∀ t, Steps p.tables e below (T257.setTop (mkF m 116 #[rv b4, iv p0, iv (0 : Int32), iv (0 : Int32)] [(.int (0 : Int32)), (.ref b4)])) t → Steps p.tables e below (s₁.setTop (entryFrame m #[(.ref b4), (.int p0)] 4)) t := fun t kt => pre256 _ (st257 _ kt)
  have pre259 : ∀ t, Steps p.tables e below (T257.setTop (mkF m 118 #[rv b4, iv p0, iv (0 : Int32), iv (0 : Int32)] [(.int (1 : Int32)), (.ref b4)])) t → Steps p.tables e below (s₁.setTop (entryFrame m #[(.ref b4), (.int p0)] 4)) t := fun t kt => by
    refine pre258 _ ?_
    show Steps p.tables e below (T257.setTop (mkF m 116 #[rv b4, iv p0, iv (0 : Int32), iv (0 : Int32)] [(.int (0 : Int32)), (.ref b4)])) _
    refine XS.iconst X257.here hx rfl (hb hby d3_116) ?_
    show Steps p.tables e below (T257.setTop (mkF m 117 #[rv b4, iv p0, iv (0 : Int32), iv (0 : Int32)] [(.int (1 : Int32)), (.int (0 : Int32)), (.ref b4)])) _
    refine XS.iadd X257.here hx rfl (hb hby d3_117) rfl ?_
    show  Steps p.tables e below (T257.setTop (mkF m 118 #[rv b4, iv p0, iv (0 : Int32), iv (0 : Int32)] [(.int ((0 : Int32) + (1 : Int32))), (.ref b4)])) _
    rw [(by decide : (((0 : Int32) + (1 : Int32)) : Int32) = (1 : Int32))]
    exact kt
  obtain ⟨T260, h260, X260, e260, W260, st260⟩ := putF X257 hx hZ hown (host := "") (Or.inl (W 18 rfl)) Via.refl e257 F250 F249 (Or.inl (W 19 rfl)) (W 1 rfl) (ty := .int) (by decide) rfl rfl (g := (mkF m 118 #[rv b4, iv p0, iv (0 : Int32), iv (0 : Int32)] [(.int (1 : Int32)), (.ref b4)])) rfl rfl (hb hby d3_118)
  have pre261 : ∀ t, Steps p.tables e below (T260.setTop (mkF m 121 #[rv b4, iv p0, iv (0 : Int32), iv (0 : Int32)] [])) t → Steps p.tables e below (s₁.setTop (entryFrame m #[(.ref b4), (.int p0)] 4)) t := fun t kt => pre259 _ (st260 _ kt)
  have N260 := Fr.snoc X260 N247 g_b4
  have O260 := O247.wr W260 g_b4
  have K260 : Keep h0 h260 [b4, b51_10] := K247.wr W260 (Or.inl (List.mem_of_getElem? (i := 0) rfl))
  have F262 := F249.wr W260
  have F263 := F251.wr W260
  have F264 := F252.other W260 (Or.inr (slot_ne (Or.inl (W 12 rfl)) (Or.inl (W 19 rfl)) (by decide) (t := (.array (.array .int))) (t' := .int) (by decide) (by decide)))
  have F265 := F253.wr W260
  have F266 := F254.other W260 q0
  have F267 := F255.other W260 (fun q => ne_b4_b221 q.symm)
  have F268 : Fld Z h260 b4 "org/reachwatch/IntBlocks" "size" "I" (.int (1 : Int32)) := F250.same W260
  obtain ⟨fs, hr, hrun, hended, hW, hsame⟩ := X260.leave (v := none) (fun _ => rfl)
  refine ⟨_, _, pre261 _ (X260.returnOut hx Bd.returns (hb hby d3_121) hr), hrun, hended, _, _, rfl, ?_, ⟨_, rfl⟩, hW, hsame.mono (by decide) (by decide)⟩
  show Q_add3_0 Z b4 p0 b51_10 k51_10 h0 n0 _ T260.heap _
  rw [e260]
  exact ⟨b221, k221, rfl, N260, K260, O260, F262, F263, F264, F265, F266, F267, F268, sz_b221⟩
theorem pd_6 : parseMethodDescriptor "(I)V" = some ⟨[.int], none⟩ := by decide +kernel
theorem d4_0 : decode prog_56_method_3_code 0 = .ok (.iload_n 1, 1) := by decide +kernel
theorem d4_1 : decode prog_56_method_3_code 1 = .ok (.aload_n 0, 1) := by decide +kernel
theorem d4_2 : decode prog_56_method_3_code 2 = .ok (.getfield 17, 3) := by decide +kernel
theorem d4_5 : decode prog_56_method_3_code 5 = .ok (.invokestatic 32, 3) := by decide +kernel
theorem d5_0 : decode jdk_31_method_17_code 0 = .ok (.iload_n 0, 1) := by decide +kernel
theorem d5_1 : decode jdk_31_method_17_code 1 = .ok (.iload_n 1, 1) := by decide +kernel
theorem d5_2 : decode jdk_31_method_17_code 2 = .ok (.aconst_null, 1) := by decide +kernel
theorem d5_3 : decode jdk_31_method_17_code 3 = .ok (.invokestatic 105, 3) := by decide +kernel
theorem d6_0 : decode jdk_41_method_11_code 0 = .ok (.iload_n 0, 1) := by decide +kernel
theorem d6_1 : decode jdk_41_method_11_code 1 = .ok (.ifCond .lt 8, 3) := by decide +kernel
theorem d6_4 : decode jdk_41_method_11_code 4 = .ok (.iload_n 0, 1) := by decide +kernel
theorem d6_5 : decode jdk_41_method_11_code 5 = .ok (.iload_n 1, 1) := by decide +kernel
theorem d6_6 : decode jdk_41_method_11_code 6 = .ok (.if_icmp .lt 10, 3) := by decide +kernel
theorem d6_16 : decode jdk_41_method_11_code 16 = .ok (.iload_n 0, 1) := by decide +kernel
theorem d6_17 : decode jdk_41_method_11_code 17 = .ok (.ireturn, 1) := by decide +kernel
theorem pn_7 : plainName "jdk/internal/util/Preconditions" = true := by first | (simp [plainName, overriddenIn]; done) | decide +kernel
theorem ef_8 (m : MethodId) (x0 : Int32) (x1 : Int32) : entryFrame m #[(.int x0), (.int x1), .null] 3 = mkF m 0 #[.val (.int x0), .val (.int x1), .val .null] [] := by first | (simp [entryFrame, mkF, argsToLocals, Value.category]; done) | rfl
def Q_checkIndex6_0 (Z : State)  (h0 : Heap) (n0 : Nat) (v : Option Value) (h : Heap) (L : List Loc) : Prop := v = some (.int (0 : Int32)) ∧ Fr n0 L ∧ h = h0
set_option maxRecDepth 65536 in
set_option maxHeartbeats 40000000 in
theorem rm_checkIndex6_0 (l : Launch) (Z : State) (a0 : Array Value) (hw : ∀ d ∈ tables_1, d.before a0 Z = true) (ws : List Jvm.Cond)  (h0 : Heap) (n0 : Nat) (O0 : Old Z n0 h0) :
    MetFree l (⟨"jdk/internal/util/Preconditions", "checkIndex", "(IILjava/util/function/BiFunction;)I"⟩ : MethodName) (head1 (Jvm.Cond.code (⟨"jdk/internal/util/Preconditions", "checkIndex", "(IILjava/util/function/BiFunction;)I"⟩ : MethodName) jdk_41_method_11_code 3 (some .int) :: ws) ({ frames := 0, cells := 0, slots := 0, locals := 0 } : Room)) (fun a U => a = #[(.int (0 : Int32)), (.int (1 : Int32)), .null] ∧ Z.Warmed39 U.vm ∧ U.heap = h0) (fun _ _ _ _ _ => True) (fun _ U o U' => ∃ v L, o = .returned v ∧ Q_checkIndex6_0 Z  h0 n0 v U'.heap L ∧ FrameEnd U o U' L ({ frames := 0, cells := 0, slots := 0, locals := 0 } : Room).cells ({ frames := 0, cells := 0, slots := 0, locals := 0 } : Room).slots) := by
  refine MetFree.of_bodySF (plainFor_of_name pn_7) hisR ?_
  intro p e s m args below meth c s₁ Bd hml0 hP hK
  have W := fun {d : Jvm.Cond} (i : Nat) (q : tables_1[i]? = some d) => hw d (List.mem_of_getElem? q)
  obtain ⟨rfl, hZ, hh⟩ := hP
  have hx := Bd.exec
  have hby := Bd.bytes
  have hml : c.maxLocals = 3 := hml0
  have hown : s.vm.findClass "jdk/internal/util/Preconditions" = some m.cls := findClass_of_methodNamed Bd.named
  have hnm := (name_of_methodNamed Bd.named Bd.method).1
  have X0 : Stand p l e ({ frames := 0, cells := 0, slots := 0, locals := 0 } : Room) s m #[(.int (0 : Int32)), (.int (1 : Int32)), .null] below meth c s₁ [] 0 0 := Stand.of_body Bd
  have e0 : s₁.heap = h0 := by rw [← hh, Bd.state]; rfl
  have N0 := Fr.nil n0
  have pre0 : ∀ t, Steps p.tables e below (s₁.setTop (mkF m 0 #[iv (0 : Int32), iv (1 : Int32), .val .null] [])) t → Steps p.tables e below (s₁.setTop (entryFrame m #[(.int (0 : Int32)), (.int (1 : Int32)), .null] 3)) t := fun t k => castTop (ef_8 m (0 : Int32) (1 : Int32)) k
  have K0 : Keep h0 h0 [] := Keep.refl h0 []
  have pre282 : ∀ t, Steps p.tables e below (s₁.setTop (mkF m 17 #[iv (0 : Int32), iv (1 : Int32), .val .null] [(.int (0 : Int32))])) t → Steps p.tables e below (s₁.setTop (entryFrame m #[(.int (0 : Int32)), (.int (1 : Int32)), .null] 3)) t := fun t kt => by
    refine pre0 _ ?_
    show Steps p.tables e below (s₁.setTop (mkF m 0 #[iv (0 : Int32), iv (1 : Int32), .val .null] [])) _
    refine XS.iloadN X0.here hx rfl (hb hby d6_0) rfl ?_
    show Steps p.tables e below (s₁.setTop (mkF m 1 #[iv (0 : Int32), iv (1 : Int32), .val .null] [(.int (0 : Int32))])) _
    refine XS.ifNo X0.here hx rfl (hb hby d6_1) rfl (XT.i0_lt_f (by decide)) ?_
    show Steps p.tables e below (s₁.setTop (mkF m 4 #[iv (0 : Int32), iv (1 : Int32), .val .null] [])) _
    refine XS.iloadN X0.here hx rfl (hb hby d6_4) rfl ?_
    show Steps p.tables e below (s₁.setTop (mkF m 5 #[iv (0 : Int32), iv (1 : Int32), .val .null] [(.int (0 : Int32))])) _
    refine XS.iloadN X0.here hx rfl (hb hby d6_5) rfl ?_
    show Steps p.tables e below (s₁.setTop (mkF m 6 #[iv (0 : Int32), iv (1 : Int32), .val .null] [(.int (1 : Int32)), (.int (0 : Int32))])) _
    refine XS.icmpYes X0.here hx rfl (pc0 := 6) (pc' := 16) rfl (hb hby d6_6) rfl (XT.ii_lt_t (by decide)) (by decide) (by decide) ?_
    show Steps p.tables e below (s₁.setTop (mkF m 16 #[iv (0 : Int32), iv (1 : Int32), .val .null] [])) _
    refine XS.iloadN X0.here hx rfl (hb hby d6_16) rfl ?_
    exact kt
  obtain ⟨fs, hr, hrun, hended, hW, hsame⟩ := X0.leave (v := some (.int (0 : Int32))) (fun h => by rw [Bd.returns] at h; cases h)
  refine ⟨_, _, pre282 _ (retI X0 hx Bd.returns (hb hby d6_17) hr), hrun, hended, _, _, rfl, ?_, ⟨_, rfl⟩, hW, hsame.mono (by decide) (by decide)⟩
  show Q_checkIndex6_0 Z  h0 n0 _ s₁.heap _
  rw [e0]
  exact ⟨rfl, N0, rfl⟩
theorem pd_9 : parseMethodDescriptor "(IILjava/util/function/BiFunction;)I" = some ⟨[.int, .int, (.object "java/util/function/BiFunction")], some .int⟩ := by decide +kernel
theorem d5_6 : decode jdk_31_method_17_code 6 = .ok (.ireturn, 1) := by decide +kernel
theorem pn_10 : plainName "java/util/Objects" = true := by first | (simp [plainName, overriddenIn]; done) | decide +kernel
theorem ef_11 (m : MethodId) (x0 : Int32) (x1 : Int32) : entryFrame m #[(.int x0), (.int x1)] 2 = mkF m 0 #[.val (.int x0), .val (.int x1)] [] := by first | (simp [entryFrame, mkF, argsToLocals, Value.category]; done) | rfl
def Q_checkIndex5_0 (Z : State)  (h0 : Heap) (n0 : Nat) (v : Option Value) (h : Heap) (L : List Loc) : Prop := v = some (.int (0 : Int32)) ∧ Fr n0 L ∧ h = h0
set_option maxRecDepth 65536 in
set_option maxHeartbeats 40000000 in
theorem rm_checkIndex5_0 (l : Launch) (Z : State) (a0 : Array Value) (hw : ∀ d ∈ tables_1, d.before a0 Z = true) (ws : List Jvm.Cond)  (h0 : Heap) (n0 : Nat) (O0 : Old Z n0 h0) :
    MetFree l (⟨"java/util/Objects", "checkIndex", "(II)I"⟩ : MethodName) (head1 (Jvm.Cond.code (⟨"java/util/Objects", "checkIndex", "(II)I"⟩ : MethodName) jdk_31_method_17_code 2 (some .int) :: ws) ({ frames := 1, cells := 0, slots := 0, locals := 14 } : Room)) (fun a U => a = #[(.int (0 : Int32)), (.int (1 : Int32))] ∧ Z.Warmed39 U.vm ∧ U.heap = h0) (fun _ _ _ _ _ => True) (fun _ U o U' => ∃ v L, o = .returned v ∧ Q_checkIndex5_0 Z  h0 n0 v U'.heap L ∧ FrameEnd U o U' L ({ frames := 1, cells := 0, slots := 0, locals := 14 } : Room).cells ({ frames := 1, cells := 0, slots := 0, locals := 14 } : Room).slots) := by
  refine MetFree.of_bodySF (plainFor_of_name pn_10) hisR ?_
  intro p e s m args below meth c s₁ Bd hml0 hP hK
  have W := fun {d : Jvm.Cond} (i : Nat) (q : tables_1[i]? = some d) => hw d (List.mem_of_getElem? q)
  obtain ⟨rfl, hZ, hh⟩ := hP
  have hx := Bd.exec
  have hby := Bd.bytes
  have hml : c.maxLocals = 2 := hml0
  have hown : s.vm.findClass "java/util/Objects" = some m.cls := findClass_of_methodNamed Bd.named
  have hnm := (name_of_methodNamed Bd.named Bd.method).1
  have X0 : Stand p l e ({ frames := 1, cells := 0, slots := 0, locals := 14 } : Room) s m #[(.int (0 : Int32)), (.int (1 : Int32))] below meth c s₁ [] 0 0 := Stand.of_body Bd
  have e0 : s₁.heap = h0 := by rw [← hh, Bd.state]; rfl
  have N0 := Fr.nil n0
  have pre0 : ∀ t, Steps p.tables e below (s₁.setTop (mkF m 0 #[iv (0 : Int32), iv (1 : Int32)] [])) t → Steps p.tables e below (s₁.setTop (entryFrame m #[(.int (0 : Int32)), (.int (1 : Int32))] 2)) t := fun t k => castTop (ef_11 m (0 : Int32) (1 : Int32)) k
  have K0 : Keep h0 h0 [] := Keep.refl h0 []
  have pre287 : ∀ t, Steps p.tables e below (s₁.setTop (mkF m 3 #[iv (0 : Int32), iv (1 : Int32)] [.null, (.int (1 : Int32)), (.int (0 : Int32))])) t → Steps p.tables e below (s₁.setTop (entryFrame m #[(.int (0 : Int32)), (.int (1 : Int32))] 2)) t := fun t kt => by
    refine pre0 _ ?_
    show Steps p.tables e below (s₁.setTop (mkF m 0 #[iv (0 : Int32), iv (1 : Int32)] [])) _
    refine XS.iloadN X0.here hx rfl (hb hby d5_0) rfl ?_
    show Steps p.tables e below (s₁.setTop (mkF m 1 #[iv (0 : Int32), iv (1 : Int32)] [(.int (0 : Int32))])) _
    refine XS.iloadN X0.here hx rfl (hb hby d5_1) rfl ?_
    show Steps p.tables e below (s₁.setTop (mkF m 2 #[iv (0 : Int32), iv (1 : Int32)] [(.int (1 : Int32)), (.int (0 : Int32))])) _
    refine XS.aconstNull X0.here hx rfl (hb hby d5_2) ?_
    exact kt
  obtain ⟨_, _, ⟨T288, L288, k288, n288⟩, -, X288, ⟨Lc288, hQ288, l288, y288, z288⟩, st288⟩ := Jvm.LawKit.callS X0 hx (y := (⟨"jdk/internal/util/Preconditions", "checkIndex", "(IILjava/util/function/BiFunction;)I"⟩ : MethodName)) hown (mvT hZ (W 33 rfl)) (mvT hZ (W 34 rfl)) (mvT hZ (W 35 rfl)) (mvT hZ (W 36 rfl)) (by decide) (backOf (W := 0) (rm_checkIndex6_0 l Z a0 hw [] h0 n0 O0) hZ (W 36 rfl) (W 35 rfl) (by decide) (by decide)) (g := (mkF m 3 #[iv (0 : Int32), iv (1 : Int32)] [.null, (.int (1 : Int32)), (.int (0 : Int32))])) rfl (by rw [hml]; rfl) (argsL := [(.int (0 : Int32)), (.int (1 : Int32)), .null]) (rest := []) (lenOf pd_9 rfl) rfl (by show 2 * 0 + _ ≤ _; exact Nat.le_of_eq rfl) (hb hby d5_3) (fun _ _ => ⟨rfl, e0, (by decide : 0 + 0 ≤ _), (by decide : 0 + 0 ≤ _)⟩)
  dsimp only [Pt.U, Pt.locs, Pt.cells, Pt.slots] at X288 l288 y288 z288 st288 hQ288
  replace l288 := l288.symm
  replace y288 : 0 = k288 := y288.symm
  replace z288 : 0 = n288 := z288.symm
  subst l288 y288 z288
  obtain ⟨rfl, M288, e288⟩ := hQ288
  have N288 := Fr.app N0 M288
  have pre289 : ∀ t, Steps p.tables e below (T288.setTop (mkF m 6 #[iv (0 : Int32), iv (1 : Int32)] [(.int (0 : Int32))])) t → Steps p.tables e below (s₁.setTop (entryFrame m #[(.int (0 : Int32)), (.int (1 : Int32))] 2)) t := fun t kt => pre287 _ (st288 _ kt)
  obtain ⟨fs, hr, hrun, hended, hW, hsame⟩ := X288.leave (v := some (.int (0 : Int32))) (fun h => by rw [Bd.returns] at h; cases h)
  refine ⟨_, _, pre289 _ (retI X288 hx Bd.returns (hb hby d5_6) hr), hrun, hended, _, _, rfl, ?_, ⟨_, rfl⟩, hW, hsame.mono (by decide) (by decide)⟩
  show Q_checkIndex5_0 Z  h0 n0 _ T288.heap _
  rw [e288]
  exact ⟨rfl, N288, rfl⟩
theorem pd_12 : parseMethodDescriptor "(II)I" = some ⟨[.int, .int], some .int⟩ := by decide +kernel
theorem d4_8 : decode prog_56_method_3_code 8 = .ok (.pop, 1) := by decide +kernel
theorem d4_9 : decode prog_56_method_3_code 9 = .ok (.aload_n 0, 1) := by decide +kernel
theorem d4_10 : decode prog_56_method_3_code 10 = .ok (.getfield 11, 3) := by decide +kernel
theorem d4_13 : decode prog_56_method_3_code 13 = .ok (.iload_n 1, 1) := by decide +kernel
theorem d4_14 : decode prog_56_method_3_code 14 = .ok (.ldc 21, 2) := by decide +kernel
theorem d4_16 : decode prog_56_method_3_code 16 = .ok (.idiv, 1) := by decide +kernel
theorem d4_17 : decode prog_56_method_3_code 17 = .ok (.aaload, 1) := by decide +kernel
theorem d4_18 : decode prog_56_method_3_code 18 = .ok (.iload_n 1, 1) := by decide +kernel
theorem d4_19 : decode prog_56_method_3_code 19 = .ok (.ldc 21, 2) := by decide +kernel
theorem d4_21 : decode prog_56_method_3_code 21 = .ok (.irem, 1) := by decide +kernel
theorem d4_22 : decode prog_56_method_3_code 22 = .ok (.iaload, 1) := by decide +kernel
theorem d4_23 : decode prog_56_method_3_code 23 = .ok (.ireturn, 1) := by decide +kernel
theorem ef_13 (m : MethodId) (x0 : Addr) (x1 : Int32) : entryFrame m #[(.ref x0), (.int x1)] 2 = mkF m 0 #[.val (.ref x0), .val (.int x1)] [] := by first | (simp [entryFrame, mkF, argsToLocals, Value.category]; done) | rfl
def Q_get4_0 (Z : State) (b4 : Addr) (k51_10 : ClassId) (b51_10 : Addr) (b221_67 : Addr) (p0 : Int32) (k221_67 : ClassId) (h0 : Heap) (n0 : Nat) (v : Option Value) (h : Heap) (L : List Loc) : Prop := v = some (.int p0) ∧ Fr n0 L ∧ h = h0
set_option maxRecDepth 65536 in
set_option maxHeartbeats 40000000 in
theorem rm_get4_0 (l : Launch) (Z : State) (a0 : Array Value) (hw : ∀ d ∈ tables_1, d.before a0 Z = true) (ws : List Jvm.Cond) (b4 : Addr) (k51_10 : ClassId) (b51_10 : Addr) (b221_67 : Addr) (p0 : Int32) (k221_67 : ClassId) (h0 : Heap) (n0 : Nat) (O0 : Old Z n0 h0) (Fi0 : Fld Z h0 b4 "org/reachwatch/IntBlocks" "blocks" "[[I" (.ref b51_10)) (Fi1 : Arv Z h0 b51_10 k51_10 (.array .int) (1 : Int32) [(.ref b221_67)] .null) (Fi2 : Arv Z h0 b221_67 k221_67 .int (16 : Int32) [(.int p0), (.int (0 : Int32)), (.int (0 : Int32)), (.int (0 : Int32)), (.int (0 : Int32)), (.int (0 : Int32)), (.int (0 : Int32)), (.int (0 : Int32)), (.int (0 : Int32)), (.int (0 : Int32)), (.int (0 : Int32)), (.int (0 : Int32)), (.int (0 : Int32)), (.int (0 : Int32)), (.int (0 : Int32)), (.int (0 : Int32))] (.int (0 : Int32))) (Fi3 : Fld Z h0 b4 "org/reachwatch/IntBlocks" "size" "I" (.int (1 : Int32))) :
    MetFree l (⟨"org/reachwatch/IntBlocks", "get", "(I)I"⟩ : MethodName) (head1 (Jvm.Cond.code (⟨"org/reachwatch/IntBlocks", "get", "(I)I"⟩ : MethodName) prog_56_method_3_code 2 (some .int) :: ws) ({ frames := 2, cells := 0, slots := 0, locals := 27 } : Room)) (fun a U => a = #[(.ref b4), (.int (0 : Int32))] ∧ Z.Warmed39 U.vm ∧ U.heap = h0) (fun _ _ _ _ _ => True) (fun _ U o U' => ∃ v L, o = .returned v ∧ Q_get4_0 Z b4 k51_10 b51_10 b221_67 p0 k221_67 h0 n0 v U'.heap L ∧ FrameEnd U o U' L ({ frames := 2, cells := 0, slots := 0, locals := 27 } : Room).cells ({ frames := 2, cells := 0, slots := 0, locals := 27 } : Room).slots) := by
  refine MetFree.of_bodySF (plainFor_of_name pn_2) hisR ?_
  intro p e s m args below meth c s₁ Bd hml0 hP hK
  have W := fun {d : Jvm.Cond} (i : Nat) (q : tables_1[i]? = some d) => hw d (List.mem_of_getElem? q)
  obtain ⟨rfl, hZ, hh⟩ := hP
  have hx := Bd.exec
  have hby := Bd.bytes
  have hml : c.maxLocals = 2 := hml0
  have hown : s.vm.findClass "org/reachwatch/IntBlocks" = some m.cls := findClass_of_methodNamed Bd.named
  have hnm := (name_of_methodNamed Bd.named Bd.method).1
  have X0 : Stand p l e ({ frames := 2, cells := 0, slots := 0, locals := 27 } : Room) s m #[(.ref b4), (.int (0 : Int32))] below meth c s₁ [] 0 0 := Stand.of_body Bd
  have e0 : s₁.heap = h0 := by rw [← hh, Bd.state]; rfl
  have N0 := Fr.nil n0
  have pre0 : ∀ t, Steps p.tables e below (s₁.setTop (mkF m 0 #[rv b4, iv (0 : Int32)] [])) t → Steps p.tables e below (s₁.setTop (entryFrame m #[(.ref b4), (.int (0 : Int32))] 2)) t := fun t k => castTop (ef_13 m b4 (0 : Int32)) k
  have K0 : Keep h0 h0 [] := Keep.refl h0 []
  have pre312 : ∀ t, Steps p.tables e below (s₁.setTop (mkF m 2 #[rv b4, iv (0 : Int32)] [(.ref b4), (.int (0 : Int32))])) t → Steps p.tables e below (s₁.setTop (entryFrame m #[(.ref b4), (.int (0 : Int32))] 2)) t := fun t kt => by
    refine pre0 _ ?_
    show Steps p.tables e below (s₁.setTop (mkF m 0 #[rv b4, iv (0 : Int32)] [])) _
    refine XS.iloadN X0.here hx rfl (hb hby d4_0) rfl ?_
    show Steps p.tables e below (s₁.setTop (mkF m 1 #[rv b4, iv (0 : Int32)] [(.int (0 : Int32))])) _
    refine XS.aloadN X0.here hx rfl (hb hby d4_1) rfl rfl ?_
    exact kt
  obtain ⟨T313, X313, e313, st313⟩ := getF X0 hx hZ hown (host := "") (Or.inl (W 18 rfl)) Via.refl e0 Fi3 (g := (mkF m 2 #[rv b4, iv (0 : Int32)] [(.ref b4), (.int (0 : Int32))])) rfl rfl (hb hby d4_2)
  have pre314 : ∀ t, Steps p.tables e below (T313.setTop (mkF m 5 #[rv b4, iv (0 : Int32)] [(.int (1 : Int32)), (.int (0 : Int32))])) t → Steps p.tables e below (s₁.setTop (entryFrame m #[(.ref b4), (.int (0 : Int32))] 2)) t := fun t kt => pre312 _ (st313 _ kt)
  obtain ⟨_, _, ⟨T315, L315, k315, n315⟩, -, X315, ⟨Lc315, hQ315, l315, y315, z315⟩, st315⟩ := Jvm.LawKit.callS X313 hx (y := (⟨"java/util/Objects", "checkIndex", "(II)I"⟩ : MethodName)) hown (mvT hZ (W 29 rfl)) (mvT hZ (W 30 rfl)) (mvT hZ (W 31 rfl)) (mvT hZ (W 32 rfl)) (by decide) (backOf (W := 0) (rm_checkIndex5_0 l Z a0 hw [] h0 n0 O0) hZ (W 32 rfl) (W 31 rfl) (by decide) (by decide)) (g := (mkF m 5 #[rv b4, iv (0 : Int32)] [(.int (1 : Int32)), (.int (0 : Int32))])) rfl (by rw [hml]; rfl) (argsL := [(.int (0 : Int32)), (.int (1 : Int32))]) (rest := []) (lenOf pd_12 rfl) rfl (by show 2 * 0 + _ ≤ _; exact Nat.le_of_eq rfl) (hb hby d4_5) (fun _ _ => ⟨rfl, e313, (by decide : 0 + 0 ≤ _), (by decide : 0 + 0 ≤ _)⟩)
  dsimp only [Pt.U, Pt.locs, Pt.cells, Pt.slots] at X315 l315 y315 z315 st315 hQ315
  replace l315 := l315.symm
  replace y315 : 0 = k315 := y315.symm
  replace z315 : 0 = n315 := z315.symm
  subst l315 y315 z315
  obtain ⟨rfl, M315, e315⟩ := hQ315
  have N315 := Fr.app N0 M315
  have pre316 : ∀ t, Steps p.tables e below (T315.setTop (mkF m 8 #[rv b4, iv (0 : Int32)] [(.int (0 : Int32))])) t → Steps p.tables e below (s₁.setTop (entryFrame m #[(.ref b4), (.int (0 : Int32))] 2)) t := fun t kt => pre314 _ (st315 _ kt)
  have pre317 : ∀ t, Steps p.tables e below (T315.setTop (mkF m 10 #[rv b4, iv (0 : Int32)] [(.ref b4)])) t → Steps p.tables e below (s₁.setTop (entryFrame m #[(.ref b4), (.int (0 : Int32))] 2)) t := fun t kt => by
    refine pre316 _ ?_
    show Steps p.tables e below (T315.setTop (mkF m 8 #[rv b4, iv (0 : Int32)] [(.int (0 : Int32))])) _
    refine XS.pop X315.here hx rfl (hb hby d4_8) rfl rfl ?_
    show Steps p.tables e below (T315.setTop (mkF m 9 #[rv b4, iv (0 : Int32)] [])) _
    refine XS.aloadN X315.here hx rfl (hb hby d4_9) rfl rfl ?_
    exact kt
  obtain ⟨T318, X318, e318, st318⟩ := getF X315 hx hZ hown (host := "") (Or.inl (W 11 rfl)) Via.refl e315 Fi0 (g := (mkF m 10 #[rv b4, iv (0 : Int32)] [(.ref b4)])) rfl rfl (hb hby d4_10)
  have pre319 : ∀ t, Steps p.tables e below (T318.setTop (mkF m 13 #[rv b4, iv (0 : Int32)] [(.ref b51_10)])) t → Steps p.tables e below (s₁.setTop (entryFrame m #[(.ref b4), (.int (0 : Int32))] 2)) t := fun t kt => pre317 _ (st318 _ kt)
  have pre321 : ∀ t, Steps p.tables e below (T318.setTop (mkF m 17 #[rv b4, iv (0 : Int32)] [(.int (0 : Int32)), (.ref b51_10)])) t → Steps p.tables e below (s₁.setTop (entryFrame m #[(.ref b4), (.int (0 : Int32))] 2)) t := fun t kt => by
    refine pre319 _ ?_
    show Steps p.tables e below (T318.setTop (mkF m 13 #[rv b4, iv (0 : Int32)] [(.ref b51_10)])) _
    refine XS.iloadN X318.here hx rfl (hb hby d4_13) rfl ?_
    show Steps p.tables e below (T318.setTop (mkF m 14 #[rv b4, iv (0 : Int32)] [(.int (0 : Int32)), (.ref b51_10)])) _
    refine X318.ldcInt hx hown (mvT hZ (W 20 rfl)) (g := (mkF m 14 #[rv b4, iv (0 : Int32)] [(.int (0 : Int32)), (.ref b51_10)])) rfl (hb hby d4_14) _ ?_
    show Steps p.tables e below (T318.setTop (mkF m 16 #[rv b4, iv (0 : Int32)] [(.int (65536 : Int32)), (.int (0 : Int32)), (.ref b51_10)])) _
    refine XS.idiv X318.here hx rfl (hb hby d4_16) rfl (by decide) ?_
    show  Steps p.tables e below (T318.setTop (mkF m 17 #[rv b4, iv (0 : Int32)] [(.int ((0 : Int32) / (65536 : Int32))), (.ref b51_10)])) _
    rw [(by decide : (((0 : Int32) / (65536 : Int32)) : Int32) = (0 : Int32))]
    exact kt
  obtain ⟨c320, Ar320, q320, S320, M320, H320, G320⟩ := id Fi1
  have i320 : ¬ ((0 : Int32) < 0 ∨ c320.slots.size ≤ ((0 : Int32)).toNatClampNeg) := inb_of S320 ⟨by decide, by decide⟩
  have t320 : c320.slots[((0 : Int32)).toNatClampNeg]? = some (.ref b221_67) := Has.at H320 i320 rfl
  have pre323 : ∀ t, Steps p.tables e below (T318.setTop (mkF m 22 #[rv b4, iv (0 : Int32)] [(.int (0 : Int32)), (.ref b221_67)])) t → Steps p.tables e below (s₁.setTop (entryFrame m #[(.ref b4), (.int (0 : Int32))] 2)) t := fun t kt => by
    refine pre321 _ ?_
    show Steps p.tables e below (T318.setTop (mkF m 17 #[rv b4, iv (0 : Int32)] [(.int (0 : Int32)), (.ref b51_10)])) _
    refine X318.aaload hx (j := (0 : Int32)) (v := (.ref b221_67)) (by rw [e318]; exact Ar320.1) (State.isArrayOf_alike hZ.alike Ar320.2.1) rfl Ar320.2.2 i320 t320 (g := (mkF m 17 #[rv b4, iv (0 : Int32)] [(.int (0 : Int32)), (.ref b51_10)])) rfl rfl (hb hby d4_17) _ ?_
    show Steps p.tables e below (T318.setTop (mkF m 18 #[rv b4, iv (0 : Int32)] [(.ref b221_67)])) _
    refine XS.iloadN X318.here hx rfl (hb hby d4_18) rfl ?_
    show Steps p.tables e below (T318.setTop (mkF m 19 #[rv b4, iv (0 : Int32)] [(.int (0 : Int32)), (.ref b221_67)])) _
    refine X318.ldcInt hx hown (mvT hZ (W 20 rfl)) (g := (mkF m 19 #[rv b4, iv (0 : Int32)] [(.int (0 : Int32)), (.ref b221_67)])) rfl (hb hby d4_19) _ ?_
    show Steps p.tables e below (T318.setTop (mkF m 21 #[rv b4, iv (0 : Int32)] [(.int (65536 : Int32)), (.int (0 : Int32)), (.ref b221_67)])) _
    refine XS.irem X318.here hx rfl (hb hby d4_21) rfl (by decide) ?_
    show  Steps p.tables e below (T318.setTop (mkF m 22 #[rv b4, iv (0 : Int32)] [(.int ((0 : Int32) - ((0 : Int32) / (65536 : Int32)) * (65536 : Int32))), (.ref b221_67)])) _
    rw [(by decide : (((0 : Int32) - ((0 : Int32) / (65536 : Int32)) * (65536 : Int32)) : Int32) = (0 : Int32))]
    exact kt
  obtain ⟨c322, Ar322, q322, S322, M322, H322, G322⟩ := id Fi2
  have i322 : ¬ ((0 : Int32) < 0 ∨ c322.slots.size ≤ ((0 : Int32)).toNatClampNeg) := inb_of S322 ⟨by decide, by decide⟩
  have t322 : c322.slots[((0 : Int32)).toNatClampNeg]? = some (.int p0) := Has.at H322 i322 rfl
  have pre324 : ∀ t, Steps p.tables e below (T318.setTop (mkF m 23 #[rv b4, iv (0 : Int32)] [(.int p0)])) t → Steps p.tables e below (s₁.setTop (entryFrame m #[(.ref b4), (.int (0 : Int32))] 2)) t := fun t kt => by
    refine pre323 _ ?_
    show Steps p.tables e below (T318.setTop (mkF m 22 #[rv b4, iv (0 : Int32)] [(.int (0 : Int32)), (.ref b221_67)])) _
    refine X318.iaload hx (j := (0 : Int32)) (v := (.int p0)) (by rw [e318]; exact Ar322.1) (State.isArrayOf_alike hZ.alike Ar322.2.1) Ar322.2.2 i322 t322 (g := (mkF m 22 #[rv b4, iv (0 : Int32)] [(.int (0 : Int32)), (.ref b221_67)])) rfl rfl (hb hby d4_22) _ ?_
    exact kt
  obtain ⟨fs, hr, hrun, hended, hW, hsame⟩ := X318.leave (v := some (.int p0)) (fun h => by rw [Bd.returns] at h; cases h)
  refine ⟨_, _, pre324 _ (retI X318 hx Bd.returns (hb hby d4_23) hr), hrun, hended, _, _, rfl, ?_, ⟨_, rfl⟩, hW, hsame.mono (by decide) (by decide)⟩
  show Q_get4_0 Z b4 k51_10 b51_10 b221_67 p0 k221_67 h0 n0 _ T318.heap _
  rw [e318]
  exact ⟨rfl, N315, rfl⟩
theorem pd_14 : parseMethodDescriptor "(I)I" = some ⟨[.int], some .int⟩ := by decide +kernel
theorem d7_0 : decode method_3_code 0 = .ok (.iload_n 0, 1) := by decide +kernel
theorem d7_1 : decode method_3_code 1 = .ok (.ifCond .ne 5, 3) := by decide +kernel
theorem d7_4 : decode method_3_code 4 = .ok (.iload_n 1, 1) := by decide +kernel
theorem d7_5 : decode method_3_code 5 = .ok (.ireturn, 1) := by decide +kernel
theorem ef_15 (m : MethodId) (x0 : Int32) (x1 : Int32) (x2 : Int32) (x3 : Int32) (x4 : Int32) : entryFrame m #[(.int x0), (.int x1), (.int x2), (.int x3), (.int x4)] 5 = mkF m 0 #[.val (.int x0), .val (.int x1), .val (.int x2), .val (.int x3), .val (.int x4)] [] := by first | (simp [entryFrame, mkF, argsToLocals, Value.category]; done) | rfl
def Q_ref7_0 (Z : State) (p0 : Int32) (p1 : Int32) (p2 : Int32) (p3 : Int32) (h0 : Heap) (n0 : Nat) (v : Option Value) (h : Heap) (L : List Loc) : Prop := v = some (.int p0) ∧ Fr n0 L ∧ h = h0
set_option maxRecDepth 65536 in
set_option maxHeartbeats 40000000 in
theorem rm_ref7_0 (l : Launch) (Z : State) (a0 : Array Value) (hw : ∀ d ∈ tables_1, d.before a0 Z = true) (ws : List Jvm.Cond) (p0 : Int32) (p1 : Int32) (p2 : Int32) (p3 : Int32) (h0 : Heap) (n0 : Nat) (O0 : Old Z n0 h0) :
    MetFree l (⟨"org/reachwatch/IntBlocksGetPinLaw", "ref", "(IIIII)I"⟩ : MethodName) (head1 (Jvm.Cond.code (⟨"org/reachwatch/IntBlocksGetPinLaw", "ref", "(IIIII)I"⟩ : MethodName) method_3_code 5 (some .int) :: ws) ({ frames := 0, cells := 0, slots := 0, locals := 0 } : Room)) (fun a U => a = #[(.int (0 : Int32)), (.int p0), (.int p1), (.int p2), (.int p3)] ∧ Z.Warmed39 U.vm ∧ U.heap = h0) (fun _ _ _ _ _ => True) (fun _ U o U' => ∃ v L, o = .returned v ∧ Q_ref7_0 Z p0 p1 p2 p3 h0 n0 v U'.heap L ∧ FrameEnd U o U' L ({ frames := 0, cells := 0, slots := 0, locals := 0 } : Room).cells ({ frames := 0, cells := 0, slots := 0, locals := 0 } : Room).slots) := by
  refine MetFree.of_bodySF (plainFor_of_name pn_0) hisR ?_
  intro p e s m args below meth c s₁ Bd hml0 hP hK
  have W := fun {d : Jvm.Cond} (i : Nat) (q : tables_1[i]? = some d) => hw d (List.mem_of_getElem? q)
  obtain ⟨rfl, hZ, hh⟩ := hP
  have hx := Bd.exec
  have hby := Bd.bytes
  have hml : c.maxLocals = 5 := hml0
  have hown : s.vm.findClass "org/reachwatch/IntBlocksGetPinLaw" = some m.cls := findClass_of_methodNamed Bd.named
  have hnm := (name_of_methodNamed Bd.named Bd.method).1
  have X0 : Stand p l e ({ frames := 0, cells := 0, slots := 0, locals := 0 } : Room) s m #[(.int (0 : Int32)), (.int p0), (.int p1), (.int p2), (.int p3)] below meth c s₁ [] 0 0 := Stand.of_body Bd
  have e0 : s₁.heap = h0 := by rw [← hh, Bd.state]; rfl
  have N0 := Fr.nil n0
  have pre0 : ∀ t, Steps p.tables e below (s₁.setTop (mkF m 0 #[iv (0 : Int32), iv p0, iv p1, iv p2, iv p3] [])) t → Steps p.tables e below (s₁.setTop (entryFrame m #[(.int (0 : Int32)), (.int p0), (.int p1), (.int p2), (.int p3)] 5)) t := fun t k => castTop (ef_15 m (0 : Int32) p0 p1 p2 p3) k
  have K0 : Keep h0 h0 [] := Keep.refl h0 []
  have pre333 : ∀ t, Steps p.tables e below (s₁.setTop (mkF m 5 #[iv (0 : Int32), iv p0, iv p1, iv p2, iv p3] [(.int p0)])) t → Steps p.tables e below (s₁.setTop (entryFrame m #[(.int (0 : Int32)), (.int p0), (.int p1), (.int p2), (.int p3)] 5)) t := fun t kt => by
    refine pre0 _ ?_
    show Steps p.tables e below (s₁.setTop (mkF m 0 #[iv (0 : Int32), iv p0, iv p1, iv p2, iv p3] [])) _
    refine XS.iloadN X0.here hx rfl (hb hby d7_0) rfl ?_
    show Steps p.tables e below (s₁.setTop (mkF m 1 #[iv (0 : Int32), iv p0, iv p1, iv p2, iv p3] [(.int (0 : Int32))])) _
    refine XS.ifNo X0.here hx rfl (hb hby d7_1) rfl (XT.i0_ne_f (by decide)) ?_
    show Steps p.tables e below (s₁.setTop (mkF m 4 #[iv (0 : Int32), iv p0, iv p1, iv p2, iv p3] [])) _
    refine XS.iloadN X0.here hx rfl (hb hby d7_4) rfl ?_
    exact kt
  obtain ⟨fs, hr, hrun, hended, hW, hsame⟩ := X0.leave (v := some (.int p0)) (fun h => by rw [Bd.returns] at h; cases h)
  refine ⟨_, _, pre333 _ (retI X0 hx Bd.returns (hb hby d7_5) hr), hrun, hended, _, _, rfl, ?_, ⟨_, rfl⟩, hW, hsame.mono (by decide) (by decide)⟩
  show Q_ref7_0 Z p0 p1 p2 p3 h0 n0 _ s₁.heap _
  rw [e0]
  exact ⟨rfl, N0, rfl⟩
theorem pd_16 : parseMethodDescriptor "(IIIII)I" = some ⟨[.int, .int, .int, .int, .int], some .int⟩ := by decide +kernel
theorem d3_73 : decode prog_56_method_2_code 73 = .ok (.iload_n 3, 1) := by decide +kernel
theorem d3_74 : decode prog_56_method_2_code 74 = .ok (.aload_n 0, 1) := by decide +kernel
theorem d3_75 : decode prog_56_method_2_code 75 = .ok (.getfield 11, 3) := by decide +kernel
theorem d3_78 : decode prog_56_method_2_code 78 = .ok (.iload_n 2, 1) := by decide +kernel
theorem d3_79 : decode prog_56_method_2_code 79 = .ok (.aaload, 1) := by decide +kernel
theorem d3_80 : decode prog_56_method_2_code 80 = .ok (.arraylength, 1) := by decide +kernel
theorem d3_81 : decode prog_56_method_2_code 81 = .ok (.if_icmp .ne 21, 3) := by decide +kernel
def Q_add3_1 (Z : State) (b340 : Addr) (p1 : Int32) (k51_346 : ClassId) (b51_346 : Addr) (b221_349 : Addr) (p0 : Int32) (k221_349 : ClassId) (h0 : Heap) (n0 : Nat) (v : Option Value) (h : Heap) (L : List Loc) : Prop := v = none ∧ Fr n0 L ∧ Keep h0 h [b340, b221_349] ∧ Old Z n0 h ∧ Exa Z h b340 "org/reachwatch/IntBlocks" ∧ Fld Z h b340 "org/reachwatch/IntBlocks" "blocks" "[[I" (.ref b51_346) ∧ Exa Z h b221_349 "[I" ∧ Arv Z h b221_349 k221_349 .int (16 : Int32) [(.int p0), (.int p1), (.int (0 : Int32)), (.int (0 : Int32)), (.int (0 : Int32)), (.int (0 : Int32)), (.int (0 : Int32)), (.int (0 : Int32)), (.int (0 : Int32)), (.int (0 : Int32)), (.int (0 : Int32)), (.int (0 : Int32)), (.int (0 : Int32)), (.int (0 : Int32)), (.int (0 : Int32)), (.int (0 : Int32))] (.int (0 : Int32)) ∧ Fld Z h b340 "org/reachwatch/IntBlocks" "size" "I" (.int (2 : Int32))
set_option maxRecDepth 65536 in
set_option maxHeartbeats 40000000 in
theorem rm_add3_1 (l : Launch) (Z : State) (a0 : Array Value) (hw : ∀ d ∈ tables_1, d.before a0 Z = true) (ws : List Jvm.Cond) (b340 : Addr) (p1 : Int32) (k51_346 : ClassId) (b51_346 : Addr) (b221_349 : Addr) (p0 : Int32) (k221_349 : ClassId) (h0 : Heap) (n0 : Nat) (O0 : Old Z n0 h0) (g_b340 : n0 ≤ b340) (g_b221_349 : n0 ≤ b221_349) (Fi0 : Exa Z h0 b340 "org/reachwatch/IntBlocks") (Fi1 : Fld Z h0 b340 "org/reachwatch/IntBlocks" "blocks" "[[I" (.ref b51_346)) (Fi2 : Exa Z h0 b221_349 "[I") (Fi3 : Arv Z h0 b51_346 k51_346 (.array .int) (1 : Int32) [(.ref b221_349)] .null) (Fi4 : Arv Z h0 b221_349 k221_349 .int (16 : Int32) [(.int p0), (.int (0 : Int32)), (.int (0 : Int32)), (.int (0 : Int32)), (.int (0 : Int32)), (.int (0 : Int32)), (.int (0 : Int32)), (.int (0 : Int32)), (.int (0 : Int32)), (.int (0 : Int32)), (.int (0 : Int32)), (.int (0 : Int32)), (.int (0 : Int32)), (.int (0 : Int32)), (.int (0 : Int32)), (.int (0 : Int32))] (.int (0 : Int32))) (Fi5 : Fld Z h0 b340 "org/reachwatch/IntBlocks" "size" "I" (.int (1 : Int32))) (q0 : ¬ (b51_346 = b340)) (q1 : ¬ (b221_349 = b340)) (q2 : ¬ (b221_349 = b51_346)) :
    MetFree l (⟨"org/reachwatch/IntBlocks", "add", "(I)V"⟩ : MethodName) (head1 (Jvm.Cond.code (⟨"org/reachwatch/IntBlocks", "add", "(I)V"⟩ : MethodName) prog_56_method_2_code 4 none :: ws) ({ frames := 0, cells := 0, slots := 0, locals := 0 } : Room)) (fun a U => a = #[(.ref b340), (.int p1)] ∧ Z.Warmed39 U.vm ∧ U.heap = h0) (fun _ _ _ _ _ => True) (fun _ U o U' => ∃ v L, o = .returned v ∧ Q_add3_1 Z b340 p1 k51_346 b51_346 b221_349 p0 k221_349 h0 n0 v U'.heap L ∧ FrameEnd U o U' L ({ frames := 0, cells := 0, slots := 0, locals := 0 } : Room).cells ({ frames := 0, cells := 0, slots := 0, locals := 0 } : Room).slots) := by
  refine MetFree.of_bodySF (plainFor_of_name pn_2) hisR ?_
  intro p e s m args below meth c s₁ Bd hml0 hP hK
  have W := fun {d : Jvm.Cond} (i : Nat) (q : tables_1[i]? = some d) => hw d (List.mem_of_getElem? q)
  obtain ⟨rfl, hZ, hh⟩ := hP
  have hx := Bd.exec
  have hby := Bd.bytes
  have hml : c.maxLocals = 4 := hml0
  have hown : s.vm.findClass "org/reachwatch/IntBlocks" = some m.cls := findClass_of_methodNamed Bd.named
  have hnm := (name_of_methodNamed Bd.named Bd.method).1
  have X0 : Stand p l e ({ frames := 0, cells := 0, slots := 0, locals := 0 } : Room) s m #[(.ref b340), (.int p1)] below meth c s₁ [] 0 0 := Stand.of_body Bd
  have e0 : s₁.heap = h0 := by rw [← hh, Bd.state]; rfl
  have N0 := Fr.nil n0
  have pre0 : ∀ t, Steps p.tables e below (s₁.setTop (mkF m 0 #[rv b340, iv p1, .unset, .unset] [])) t → Steps p.tables e below (s₁.setTop (entryFrame m #[(.ref b340), (.int p1)] 4)) t := fun t k => castTop (ef_5 m b340 p1) k
  have K0 : Keep h0 h0 [b340, b221_349] := Keep.refl h0 [b340, b221_349]
  have pre453 : ∀ t, Steps p.tables e below (s₁.setTop (mkF m 1 #[rv b340, iv p1, .unset, .unset] [(.ref b340)])) t → Steps p.tables e below (s₁.setTop (entryFrame m #[(.ref b340), (.int p1)] 4)) t := fun t kt => by
    refine pre0 _ ?_
    show Steps p.tables e below (s₁.setTop (mkF m 0 #[rv b340, iv p1, .unset, .unset] [])) _
    refine XS.aloadN X0.here hx rfl (hb hby d3_0) rfl rfl ?_
    exact kt
  obtain ⟨T454, X454, e454, st454⟩ := getF X0 hx hZ hown (host := "") (Or.inl (W 18 rfl)) Via.refl e0 Fi5 (g := (mkF m 1 #[rv b340, iv p1, .unset, .unset] [(.ref b340)])) rfl rfl (hb hby d3_1)
  have pre455 : ∀ t, Steps p.tables e below (T454.setTop (mkF m 4 #[rv b340, iv p1, .unset, .unset] [(.int (1 : Int32))])) t → Steps p.tables e below (s₁.setTop (entryFrame m #[(.ref b340), (.int p1)] 4)) t := fun t kt => pre453 _ (st454 _ kt)
  have pre456 : ∀ t, Steps p.tables e below (T454.setTop (mkF m 9 #[rv b340, iv p1, iv (0 : Int32), .unset] [(.ref b340)])) t → Steps p.tables e below (s₁.setTop (entryFrame m #[(.ref b340), (.int p1)] 4)) t := fun t kt => by
    refine pre455 _ ?_
    show Steps p.tables e below (T454.setTop (mkF m 4 #[rv b340, iv p1, .unset, .unset] [(.int (1 : Int32))])) _
    refine X454.ldcInt hx hown (mvT hZ (W 20 rfl)) (g := (mkF m 4 #[rv b340, iv p1, .unset, .unset] [(.int (1 : Int32))])) rfl (hb hby d3_4) _ ?_
    show Steps p.tables e below (T454.setTop (mkF m 6 #[rv b340, iv p1, .unset, .unset] [(.int (65536 : Int32)), (.int (1 : Int32))])) _
    refine XS.idiv X454.here hx rfl (hb hby d3_6) rfl (by decide) ?_
    show  Steps p.tables e below (T454.setTop (mkF m 7 #[rv b340, iv p1, .unset, .unset] [(.int ((1 : Int32) / (65536 : Int32)))])) _
    rw [(by decide : (((1 : Int32) / (65536 : Int32)) : Int32) = (0 : Int32))]
    show Steps p.tables e below (T454.setTop (mkF m 7 #[rv b340, iv p1, .unset, .unset] [(.int (0 : Int32))])) _
    refine XS.istoreN X454.here hx rfl (hb hby d3_7) rfl (l' := #[rv b340, iv p1, iv (0 : Int32), .unset]) rfl ?_
    show Steps p.tables e below (T454.setTop (mkF m 8 #[rv b340, iv p1, iv (0 : Int32), .unset] [])) _
    refine XS.aloadN X454.here hx rfl (hb hby d3_8) rfl rfl ?_
    exact kt
  obtain ⟨T457, X457, e457, st457⟩ := getF X454 hx hZ hown (host := "") (Or.inl (W 18 rfl)) Via.refl e454 Fi5 (g := (mkF m 9 #[rv b340, iv p1, iv (0 : Int32), .unset] [(.ref b340)])) rfl rfl (hb hby d3_9)
  have pre458 : ∀ t, Steps p.tables e below (T457.setTop (mkF m 12 #[rv b340, iv p1, iv (0 : Int32), .unset] [(.int (1 : Int32))])) t → Steps p.tables e below (s₁.setTop (entryFrame m #[(.ref b340), (.int p1)] 4)) t := fun t kt => pre456 _ (st457 _ kt)
  have pre459 : ∀ t, Steps p.tables e below (T457.setTop (mkF m 18 #[rv b340, iv p1, iv (0 : Int32), iv (1 : Int32)] [(.ref b340), (.int (0 : Int32))])) t → Steps p.tables e below (s₁.setTop (entryFrame m #[(.ref b340), (.int p1)] 4)) t := fun t kt => by
    refine pre458 _ ?_
    show Steps p.tables e below (T457.setTop (mkF m 12 #[rv b340, iv p1, iv (0 : Int32), .unset] [(.int (1 : Int32))])) _
    refine X457.ldcInt hx hown (mvT hZ (W 20 rfl)) (g := (mkF m 12 #[rv b340, iv p1, iv (0 : Int32), .unset] [(.int (1 : Int32))])) rfl (hb hby d3_12) _ ?_
    show Steps p.tables e below (T457.setTop (mkF m 14 #[rv b340, iv p1, iv (0 : Int32), .unset] [(.int (65536 : Int32)), (.int (1 : Int32))])) _
    refine XS.irem X457.here hx rfl (hb hby d3_14) rfl (by decide) ?_
    show  Steps p.tables e below (T457.setTop (mkF m 15 #[rv b340, iv p1, iv (0 : Int32), .unset] [(.int ((1 : Int32) - ((1 : Int32) / (65536 : Int32)) * (65536 : Int32)))])) _
    rw [(by decide : (((1 : Int32) - ((1 : Int32) / (65536 : Int32)) * (65536 : Int32)) : Int32) = (1 : Int32))]
    show Steps p.tables e below (T457.setTop (mkF m 15 #[rv b340, iv p1, iv (0 : Int32), .unset] [(.int (1 : Int32))])) _
    refine XS.istoreN X457.here hx rfl (hb hby d3_15) rfl (l' := #[rv b340, iv p1, iv (0 : Int32), iv (1 : Int32)]) rfl ?_
    show Steps p.tables e below (T457.setTop (mkF m 16 #[rv b340, iv p1, iv (0 : Int32), iv (1 : Int32)] [])) _
    refine XS.iloadN X457.here hx rfl (hb hby d3_16) rfl ?_
    show Steps p.tables e below (T457.setTop (mkF m 17 #[rv b340, iv p1, iv (0 : Int32), iv (1 : Int32)] [(.int (0 : Int32))])) _
    refine XS.aloadN X457.here hx rfl (hb hby d3_17) rfl rfl ?_
    exact kt
  obtain ⟨T460, X460, e460, st460⟩ := getF X457 hx hZ hown (host := "") (Or.inl (W 11 rfl)) Via.refl e457 Fi1 (g := (mkF m 18 #[rv b340, iv p1, iv (0 : Int32), iv (1 : Int32)] [(.ref b340), (.int (0 : Int32))])) rfl rfl (hb hby d3_18)
  have pre461 : ∀ t, Steps p.tables e below (T460.setTop (mkF m 21 #[rv b340, iv p1, iv (0 : Int32), iv (1 : Int32)] [(.ref b51_346), (.int (0 : Int32))])) t → Steps p.tables e below (s₁.setTop (entryFrame m #[(.ref b340), (.int p1)] 4)) t := fun t kt => pre459 _ (st460 _ kt)
  obtain ⟨c462, Ar462, -, S462, M462, -, -⟩ := id Fi3
  have pre463 : ∀ t, Steps p.tables e below (T460.setTop (mkF m 43 #[rv b340, iv p1, iv (0 : Int32), iv (1 : Int32)] [(.ref b340)])) t → Steps p.tables e below (s₁.setTop (entryFrame m #[(.ref b340), (.int p1)] 4)) t := fun t kt => by
    refine pre461 _ ?_
    show Steps p.tables e below (T460.setTop (mkF m 21 #[rv b340, iv p1, iv (0 : Int32), iv (1 : Int32)] [(.ref b51_346), (.int (0 : Int32))])) _
    refine X460.arraylength hx (by rw [e460]; exact Ar462.1) (State.isArrayOf_alike hZ.alike Ar462.2.1) (g := (mkF m 21 #[rv b340, iv p1, iv (0 : Int32), iv (1 : Int32)] [(.ref b51_346), (.int (0 : Int32))])) rfl rfl (hb hby d3_21) _ ?_
    rw [len_of S462 M462]
    show Steps p.tables e below (T460.setTop (mkF m 22 #[rv b340, iv p1, iv (0 : Int32), iv (1 : Int32)] [(.int (1 : Int32)), (.int (0 : Int32))])) _
    refine XS.icmpYes X460.here hx rfl (pc0 := 22) (pc' := 42) rfl (hb hby d3_22) rfl (XT.ii_ne_t (by decide)) (by decide) (by decide) ?_
    show Steps p.tables e below (T460.setTop (mkF m 42 #[rv b340, iv p1, iv (0 : Int32), iv (1 : Int32)] [])) _
    refine XS.aloadN X460.here hx rfl (hb hby d3_42) rfl rfl ?_
    exact kt
  obtain ⟨T464, X464, e464, st464⟩ := getF X460 hx hZ hown (host := "") (Or.inl (W 11 rfl)) Via.refl e460 Fi1 (g := (mkF m 43 #[rv b340, iv p1, iv (0 : Int32), iv (1 : Int32)] [(.ref b340)])) rfl rfl (hb hby d3_43)
  have pre465 : ∀ t, Steps p.tables e below (T464.setTop (mkF m 46 #[rv b340, iv p1, iv (0 : Int32), iv (1 : Int32)] [(.ref b51_346)])) t → Steps p.tables e below (s₁.setTop (entryFrame m #[(.ref b340), (.int p1)] 4)) t := fun t kt => pre463 _ (st464 _ kt)
  have pre467 : ∀ t, Steps p.tables e below (T464.setTop (mkF m 47 #[rv b340, iv p1, iv (0 : Int32), iv (1 : Int32)] [(.int (0 : Int32)), (.ref b51_346)])) t → Steps p.tables e below (s₁.setTop (entryFrame m #[(.ref b340), (.int p1)] 4)) t := fun t kt => by
    refine pre465 _ ?_
    show Steps p.tables e below (T464.setTop (mkF m 46 #[rv b340, iv p1, iv (0 : Int32), iv (1 : Int32)] [(.ref b51_346)])) _
    refine XS.iloadN X464.here hx rfl (hb hby d3_46) rfl ?_
    exact kt
  obtain ⟨c466, Ar466, q466, S466, M466, H466, G466⟩ := id Fi3
  have i466 : ¬ ((0 : Int32) < 0 ∨ c466.slots.size ≤ ((0 : Int32)).toNatClampNeg) := inb_of S466 ⟨by decide, by decide⟩
  have t466 : c466.slots[((0 : Int32)).toNatClampNeg]? = some (.ref b221_349) := Has.at H466 i466 rfl
  have pre468 : ∀ t, Steps p.tables e below (T464.setTop (mkF m 75 #[rv b340, iv p1, iv (0 : Int32), iv (1 : Int32)] [(.ref b340), (.int (1 : Int32))])) t → Steps p.tables e below (s₁.setTop (entryFrame m #[(.ref b340), (.int p1)] 4)) t := fun t kt => by
    refine pre467 _ ?_
    show Steps p.tables e below (T464.setTop (mkF m 47 #[rv b340, iv p1, iv (0 : Int32), iv (1 : Int32)] [(.int (0 : Int32)), (.ref b51_346)])) _
    refine X464.aaload hx (j := (0 : Int32)) (v := (.ref b221_349)) (by rw [e464]; exact Ar466.1) (State.isArrayOf_alike hZ.alike Ar466.2.1) rfl Ar466.2.2 i466 t466 (g := (mkF m 47 #[rv b340, iv p1, iv (0 : Int32), iv (1 : Int32)] [(.int (0 : Int32)), (.ref b51_346)])) rfl rfl (hb hby d3_47) _ ?_
    show Steps p.tables e below (T464.setTop (mkF m 48 #[rv b340, iv p1, iv (0 : Int32), iv (1 : Int32)] [(.ref b221_349)])) _
    refine XS.ifnonnullYes X464.here hx rfl (pc0 := 48) (pc' := 73) rfl (hb hby d3_48) rfl (by decide) (by decide) ?_
    show Steps p.tables e below (T464.setTop (mkF m 73 #[rv b340, iv p1, iv (0 : Int32), iv (1 : Int32)] [])) _
    refine XS.iloadN X464.here hx rfl (hb hby d3_73) rfl ?_
    show Steps p.tables e below (T464.setTop (mkF m 74 #[rv b340, iv p1, iv (0 : Int32), iv (1 : Int32)] [(.int (1 : Int32))])) _
    refine XS.aloadN X464.here hx rfl (hb hby d3_74) rfl rfl ?_
    exact kt
  obtain ⟨T469, X469, e469, st469⟩ := getF X464 hx hZ hown (host := "") (Or.inl (W 11 rfl)) Via.refl e464 Fi1 (g := (mkF m 75 #[rv b340, iv p1, iv (0 : Int32), iv (1 : Int32)] [(.ref b340), (.int (1 : Int32))])) rfl rfl (hb hby d3_75)
  have pre470 : ∀ t, Steps p.tables e below (T469.setTop (mkF m 78 #[rv b340, iv p1, iv (0 : Int32), iv (1 : Int32)] [(.ref b51_346), (.int (1 : Int32))])) t → Steps p.tables e below (s₁.setTop (entryFrame m #[(.ref b340), (.int p1)] 4)) t := fun t kt => pre468 _ (st469 _ kt)
  have pre472 : ∀ t, Steps p.tables e below (T469.setTop (mkF m 79 #[rv b340, iv p1, iv (0 : Int32), iv (1 : Int32)] [(.int (0 : Int32)), (.ref b51_346), (.int (1 : Int32))])) t → Steps p.tables e below (s₁.setTop (entryFrame m #[(.ref b340), (.int p1)] 4)) t := fun t kt => by
    refine pre470 _ ?_
    show Steps p.tables e below (T469.setTop (mkF m 78 #[rv b340, iv p1, iv (0 : Int32), iv (1 : Int32)] [(.ref b51_346), (.int (1 : Int32))])) _
    refine XS.iloadN X469.here hx rfl (hb hby d3_78) rfl ?_
    exact kt
  obtain ⟨c471, Ar471, q471, S471, M471, H471, G471⟩ := id Fi3
  have i471 : ¬ ((0 : Int32) < 0 ∨ c471.slots.size ≤ ((0 : Int32)).toNatClampNeg) := inb_of S471 ⟨by decide, by decide⟩
  have t471 : c471.slots[((0 : Int32)).toNatClampNeg]? = some (.ref b221_349) := Has.at H471 i471 rfl
  have pre474 : ∀ t, Steps p.tables e below (T469.setTop (mkF m 80 #[rv b340, iv p1, iv (0 : Int32), iv (1 : Int32)] [(.ref b221_349), (.int (1 : Int32))])) t → Steps p.tables e below (s₁.setTop (entryFrame m #[(.ref b340), (.int p1)] 4)) t := fun t kt => by
    refine pre472 _ ?_
    show Steps p.tables e below (T469.setTop (mkF m 79 #[rv b340, iv p1, iv (0 : Int32), iv (1 : Int32)] [(.int (0 : Int32)), (.ref b51_346), (.int (1 : Int32))])) _
    refine X469.aaload hx (j := (0 : Int32)) (v := (.ref b221_349)) (by rw [e469]; exact Ar471.1) (State.isArrayOf_alike hZ.alike Ar471.2.1) rfl Ar471.2.2 i471 t471 (g := (mkF m 79 #[rv b340, iv p1, iv (0 : Int32), iv (1 : Int32)] [(.int (0 : Int32)), (.ref b51_346), (.int (1 : Int32))])) rfl rfl (hb hby d3_79) _ ?_
    exact kt
  obtain ⟨c473, Ar473, -, S473, M473, -, -⟩ := id Fi4
  have pre475 : ∀ t, Steps p.tables e below (T469.setTop (mkF m 103 #[rv b340, iv p1, iv (0 : Int32), iv (1 : Int32)] [(.ref b340)])) t → Steps p.tables e below (s₁.setTop (entryFrame m #[(.ref b340), (.int p1)] 4)) t := fun t kt => by
    refine pre474 _ ?_
    show Steps p.tables e below (T469.setTop (mkF m 80 #[rv b340, iv p1, iv (0 : Int32), iv (1 : Int32)] [(.ref b221_349), (.int (1 : Int32))])) _
    refine X469.arraylength hx (by rw [e469]; exact Ar473.1) (State.isArrayOf_alike hZ.alike Ar473.2.1) (g := (mkF m 80 #[rv b340, iv p1, iv (0 : Int32), iv (1 : Int32)] [(.ref b221_349), (.int (1 : Int32))])) rfl rfl (hb hby d3_80) _ ?_
    rw [len_of S473 M473]
    show Steps p.tables e below (T469.setTop (mkF m 81 #[rv b340, iv p1, iv (0 : Int32), iv (1 : Int32)] [(.int (16 : Int32)), (.int (1 : Int32))])) _
    refine XS.icmpYes X469.here hx rfl (pc0 := 81) (pc' := 102) rfl (hb hby d3_81) rfl (XT.ii_ne_t (by decide)) (by decide) (by decide) ?_
    show Steps p.tables e below (T469.setTop (mkF m 102 #[rv b340, iv p1, iv (0 : Int32), iv (1 : Int32)] [])) _
    refine XS.aloadN X469.here hx rfl (hb hby d3_102) rfl rfl ?_
    exact kt
  obtain ⟨T476, X476, e476, st476⟩ := getF X469 hx hZ hown (host := "") (Or.inl (W 11 rfl)) Via.refl e469 Fi1 (g := (mkF m 103 #[rv b340, iv p1, iv (0 : Int32), iv (1 : Int32)] [(.ref b340)])) rfl rfl (hb hby d3_103)
  have pre477 : ∀ t, Steps p.tables e below (T476.setTop (mkF m 106 #[rv b340, iv p1, iv (0 : Int32), iv (1 : Int32)] [(.ref b51_346)])) t → Steps p.tables e below (s₁.setTop (entryFrame m #[(.ref b340), (.int p1)] 4)) t := fun t kt => pre475 _ (st476 _ kt)
  have pre479 : ∀ t, Steps p.tables e below (T476.setTop (mkF m 107 #[rv b340, iv p1, iv (0 : Int32), iv (1 : Int32)] [(.int (0 : Int32)), (.ref b51_346)])) t → Steps p.tables e below (s₁.setTop (entryFrame m #[(.ref b340), (.int p1)] 4)) t := fun t kt => by
    refine pre477 _ ?_
    show Steps p.tables e below (T476.setTop (mkF m 106 #[rv b340, iv p1, iv (0 : Int32), iv (1 : Int32)] [(.ref b51_346)])) _
    refine XS.iloadN X476.here hx rfl (hb hby d3_106) rfl ?_
    exact kt
  obtain ⟨c478, Ar478, q478, S478, M478, H478, G478⟩ := id Fi3
  have i478 : ¬ ((0 : Int32) < 0 ∨ c478.slots.size ≤ ((0 : Int32)).toNatClampNeg) := inb_of S478 ⟨by decide, by decide⟩
  have t478 : c478.slots[((0 : Int32)).toNatClampNeg]? = some (.ref b221_349) := Has.at H478 i478 rfl
  have pre480 : ∀ t, Steps p.tables e below (T476.setTop (mkF m 110 #[rv b340, iv p1, iv (0 : Int32), iv (1 : Int32)] [(.int p1), (.int (1 : Int32)), (.ref b221_349)])) t → Steps p.tables e below (s₁.setTop (entryFrame m #[(.ref b340), (.int p1)] 4)) t := fun t kt => by
    refine pre479 _ ?_
    show Steps p.tables e below (T476.setTop (mkF m 107 #[rv b340, iv p1, iv (0 : Int32), iv (1 : Int32)] [(.int (0 : Int32)), (.ref b51_346)])) _
    refine X476.aaload hx (j := (0 : Int32)) (v := (.ref b221_349)) (by rw [e476]; exact Ar478.1) (State.isArrayOf_alike hZ.alike Ar478.2.1) rfl Ar478.2.2 i478 t478 (g := (mkF m 107 #[rv b340, iv p1, iv (0 : Int32), iv (1 : Int32)] [(.int (0 : Int32)), (.ref b51_346)])) rfl rfl (hb hby d3_107) _ ?_
    show Steps p.tables e below (T476.setTop (mkF m 108 #[rv b340, iv p1, iv (0 : Int32), iv (1 : Int32)] [(.ref b221_349)])) _
    refine XS.iloadN X476.here hx rfl (hb hby d3_108) rfl ?_
    show Steps p.tables e below (T476.setTop (mkF m 109 #[rv b340, iv p1, iv (0 : Int32), iv (1 : Int32)] [(.int (1 : Int32)), (.ref b221_349)])) _
    refine XS.iloadN X476.here hx rfl (hb hby d3_109) rfl ?_
    exact kt
  obtain ⟨c481, Ar481, q481, S481, M481, H481, G481⟩ := id Fi4
  have i481 : ¬ ((1 : Int32) < 0 ∨ c481.slots.size ≤ ((1 : Int32)).toNatClampNeg) := inb_of S481 ⟨by decide, by decide⟩
  obtain ⟨T482, h482, X482, e482, W482, st482⟩ := stI X476 hx hZ e476 Ar481 (j := (1 : Int32)) i481 (g := (mkF m 110 #[rv b340, iv p1, iv (0 : Int32), iv (1 : Int32)] [(.int p1), (.int (1 : Int32)), (.ref b221_349)])) rfl rfl (hb hby d3_110)
  have pre483 : ∀ t, Steps p.tables e below (T482.setTop (mkF m 111 #[rv b340, iv p1, iv (0 : Int32), iv (1 : Int32)] [])) t → Steps p.tables e below (s₁.setTop (entryFrame m #[(.ref b340), (.int p1)] 4)) t := fun t kt => pre480 _ (st482 _ kt)
  have N482 := Fr.snoc X482 N0 g_b221_349
  have O482 := O0.wr W482 g_b221_349
  have K482 : Keep h0 h482 [b340, b221_349] := K0.wr W482 (Or.inl (List.mem_of_getElem? (i := 1) rfl))
  have F484 := Fi0.wr W482
  have F485 := Fi1.other W482 (Or.inl (fun q => q1 q.symm))
  have F486 := Fi2.wr W482
  have F487 := Fi3.other W482 (fun q => q2 q.symm)
  have F488 := Fi5.other W482 (Or.inl (fun q => q1 q.symm))
  have F489 : Arv Z h482 b221_349 k221_349 .int (16 : Int32) [(.int p0), (.int p1), (.int (0 : Int32)), (.int (0 : Int32)), (.int (0 : Int32)), (.int (0 : Int32)), (.int (0 : Int32)), (.int (0 : Int32)), (.int (0 : Int32)), (.int (0 : Int32)), (.int (0 : Int32)), (.int (0 : Int32)), (.int (0 : Int32)), (.int (0 : Int32)), (.int (0 : Int32)), (.int (0 : Int32))] (.int (0 : Int32)) := Arv.set Ar481 q481 S481 M481 H481 G481 rfl W482 1 rfl (Nat.le_of_ble_eq_true rfl)
  have pre490 : ∀ t, Steps p.tables e below (T482.setTop (mkF m 113 #[rv b340, iv p1, iv (0 : Int32), iv (1 : Int32)] [(.ref b340), (.ref b340)])) t → Steps p.tables e below (s₁.setTop (entryFrame m #[(.ref b340), (.int p1)] 4)) t := fun t kt => by
    refine pre483 _ ?_
    show Steps p.tables e below (T482.setTop (mkF m 111 #[rv b340, iv p1, iv (0 : Int32), iv (1 : Int32)] [])) _
    refine XS.aloadN X482.here hx rfl (hb hby d3_111) rfl rfl ?_
    show Steps p.tables e below (T482.setTop (mkF m 112 #[rv b340, iv p1, iv (0 : Int32), iv (1 : Int32)] [(.ref b340)])) _
    refine XS.dup X482.here hx rfl (hb hby d3_112) rfl rfl ?_
    exact kt
  obtain ⟨T491, X491, e491, st491⟩ := getF X482 hx hZ hown (host := "") (Or.inl (W 18 rfl)) Via.refl e482 F488 (g := (mkF m 113 #[rv b340, iv p1, iv (0 : Int32), iv (1 : Int32)] [(.ref b340), (.ref b340)])) rfl rfl (hb hby d3_113)
  have pre492 : ∀ t, Steps p.tables e below (T491.setTop (mkF m 116 #[rv b340, iv p1, iv (0 : Int32), iv (1 : Int32)] [(.int (1 : Int32)), (.ref b340)])) t → Steps p.tables e below (s₁.setTop (entryFrame m #[(.ref b340), (.int p1)] 4)) t := fun t kt => pre490 _ (st491 _ kt)
  have pre493 : ∀ t, Steps p.tables e below (T491.setTop (mkF m 118 #[rv b340, iv p1, iv (0 : Int32), iv (1 : Int32)] [(.int (2 : Int32)), (.ref b340)])) t → Steps p.tables e below (s₁.setTop (entryFrame m #[(.ref b340), (.int p1)] 4)) t := fun t kt => by
    refine pre492 _ ?_
    show Steps p.tables e below (T491.setTop (mkF m 116 #[rv b340, iv p1, iv (0 : Int32), iv (1 : Int32)] [(.int (1 : Int32)), (.ref b340)])) _
    refine XS.iconst X491.here hx rfl (hb hby d3_116) ?_
    show Steps p.tables e below (T491.setTop (mkF m 117 #[rv b340, iv p1, iv (0 : Int32), iv (1 : Int32)] [(.int (1 : Int32)), (.int (1 : Int32)), (.ref b340)])) _
    refine XS.iadd X491.here hx rfl (hb hby d3_117) rfl ?_
    show  Steps p.tables e below (T491.setTop (mkF m 118 #[rv b340, iv p1, iv (0 : Int32), iv (1 : Int32)] [(.int ((1 : Int32) + (1 : Int32))), (.ref b340)])) _
    rw [(by decide : (((1 : Int32) + (1 : Int32)) : Int32) = (2 : Int32))]
    exact kt
  obtain ⟨T494, h494, X494, e494, W494, st494⟩ := putF X491 hx hZ hown (host := "") (Or.inl (W 18 rfl)) Via.refl e491 F488 F484 (Or.inl (W 19 rfl)) (W 1 rfl) (ty := .int) (by decide) rfl rfl (g := (mkF m 118 #[rv b340, iv p1, iv (0 : Int32), iv (1 : Int32)] [(.int (2 : Int32)), (.ref b340)])) rfl rfl (hb hby d3_118)
  have pre495 : ∀ t, Steps p.tables e below (T494.setTop (mkF m 121 #[rv b340, iv p1, iv (0 : Int32), iv (1 : Int32)] [])) t → Steps p.tables e below (s₁.setTop (entryFrame m #[(.ref b340), (.int p1)] 4)) t := fun t kt => pre493 _ (st494 _ kt)
  have N494 := Fr.snoc X494 N482 g_b340
  have O494 := O482.wr W494 g_b340
  have K494 : Keep h0 h494 [b340, b221_349] := K482.wr W494 (Or.inl (List.mem_of_getElem? (i := 0) rfl))
  have F496 := F484.wr W494
  have F497 := F485.other W494 (Or.inr (slot_ne (Or.inl (W 12 rfl)) (Or.inl (W 19 rfl)) (by decide) (t := (.array (.array .int))) (t' := .int) (by decide) (by decide)))
  have F498 := F486.wr W494
  have F499 := F487.other W494 q0
  have F500 := F489.other W494 q1
  have F501 : Fld Z h494 b340 "org/reachwatch/IntBlocks" "size" "I" (.int (2 : Int32)) := F488.same W494
  obtain ⟨fs, hr, hrun, hended, hW, hsame⟩ := X494.leave (v := none) (fun _ => rfl)
  refine ⟨_, _, pre495 _ (X494.returnOut hx Bd.returns (hb hby d3_121) hr), hrun, hended, _, _, rfl, ?_, ⟨_, rfl⟩, hW, hsame.mono (by decide) (by decide)⟩
  show Q_add3_1 Z b340 p1 k51_346 b51_346 b221_349 p0 k221_349 h0 n0 _ T494.heap _
  rw [e494]
  exact ⟨rfl, N494, K494, O494, F496, F497, F498, F500, F501⟩
def Q_checkIndex6_1 (Z : State)  (h0 : Heap) (n0 : Nat) (v : Option Value) (h : Heap) (L : List Loc) : Prop := v = some (.int (0 : Int32)) ∧ Fr n0 L ∧ h = h0
set_option maxRecDepth 65536 in
set_option maxHeartbeats 40000000 in
theorem rm_checkIndex6_1 (l : Launch) (Z : State) (a0 : Array Value) (hw : ∀ d ∈ tables_1, d.before a0 Z = true) (ws : List Jvm.Cond)  (h0 : Heap) (n0 : Nat) (O0 : Old Z n0 h0) :
    MetFree l (⟨"jdk/internal/util/Preconditions", "checkIndex", "(IILjava/util/function/BiFunction;)I"⟩ : MethodName) (head1 (Jvm.Cond.code (⟨"jdk/internal/util/Preconditions", "checkIndex", "(IILjava/util/function/BiFunction;)I"⟩ : MethodName) jdk_41_method_11_code 3 (some .int) :: ws) ({ frames := 0, cells := 0, slots := 0, locals := 0 } : Room)) (fun a U => a = #[(.int (0 : Int32)), (.int (2 : Int32)), .null] ∧ Z.Warmed39 U.vm ∧ U.heap = h0) (fun _ _ _ _ _ => True) (fun _ U o U' => ∃ v L, o = .returned v ∧ Q_checkIndex6_1 Z  h0 n0 v U'.heap L ∧ FrameEnd U o U' L ({ frames := 0, cells := 0, slots := 0, locals := 0 } : Room).cells ({ frames := 0, cells := 0, slots := 0, locals := 0 } : Room).slots) := by
  refine MetFree.of_bodySF (plainFor_of_name pn_7) hisR ?_
  intro p e s m args below meth c s₁ Bd hml0 hP hK
  have W := fun {d : Jvm.Cond} (i : Nat) (q : tables_1[i]? = some d) => hw d (List.mem_of_getElem? q)
  obtain ⟨rfl, hZ, hh⟩ := hP
  have hx := Bd.exec
  have hby := Bd.bytes
  have hml : c.maxLocals = 3 := hml0
  have hown : s.vm.findClass "jdk/internal/util/Preconditions" = some m.cls := findClass_of_methodNamed Bd.named
  have hnm := (name_of_methodNamed Bd.named Bd.method).1
  have X0 : Stand p l e ({ frames := 0, cells := 0, slots := 0, locals := 0 } : Room) s m #[(.int (0 : Int32)), (.int (2 : Int32)), .null] below meth c s₁ [] 0 0 := Stand.of_body Bd
  have e0 : s₁.heap = h0 := by rw [← hh, Bd.state]; rfl
  have N0 := Fr.nil n0
  have pre0 : ∀ t, Steps p.tables e below (s₁.setTop (mkF m 0 #[iv (0 : Int32), iv (2 : Int32), .val .null] [])) t → Steps p.tables e below (s₁.setTop (entryFrame m #[(.int (0 : Int32)), (.int (2 : Int32)), .null] 3)) t := fun t k => castTop (ef_8 m (0 : Int32) (2 : Int32)) k
  have K0 : Keep h0 h0 [] := Keep.refl h0 []
  have pre517 : ∀ t, Steps p.tables e below (s₁.setTop (mkF m 17 #[iv (0 : Int32), iv (2 : Int32), .val .null] [(.int (0 : Int32))])) t → Steps p.tables e below (s₁.setTop (entryFrame m #[(.int (0 : Int32)), (.int (2 : Int32)), .null] 3)) t := fun t kt => by
    refine pre0 _ ?_
    show Steps p.tables e below (s₁.setTop (mkF m 0 #[iv (0 : Int32), iv (2 : Int32), .val .null] [])) _
    refine XS.iloadN X0.here hx rfl (hb hby d6_0) rfl ?_
    show Steps p.tables e below (s₁.setTop (mkF m 1 #[iv (0 : Int32), iv (2 : Int32), .val .null] [(.int (0 : Int32))])) _
    refine XS.ifNo X0.here hx rfl (hb hby d6_1) rfl (XT.i0_lt_f (by decide)) ?_
    show Steps p.tables e below (s₁.setTop (mkF m 4 #[iv (0 : Int32), iv (2 : Int32), .val .null] [])) _
    refine XS.iloadN X0.here hx rfl (hb hby d6_4) rfl ?_
    show Steps p.tables e below (s₁.setTop (mkF m 5 #[iv (0 : Int32), iv (2 : Int32), .val .null] [(.int (0 : Int32))])) _
    refine XS.iloadN X0.here hx rfl (hb hby d6_5) rfl ?_
    show Steps p.tables e below (s₁.setTop (mkF m 6 #[iv (0 : Int32), iv (2 : Int32), .val .null] [(.int (2 : Int32)), (.int (0 : Int32))])) _
    refine XS.icmpYes X0.here hx rfl (pc0 := 6) (pc' := 16) rfl (hb hby d6_6) rfl (XT.ii_lt_t (by decide)) (by decide) (by decide) ?_
    show Steps p.tables e below (s₁.setTop (mkF m 16 #[iv (0 : Int32), iv (2 : Int32), .val .null] [])) _
    refine XS.iloadN X0.here hx rfl (hb hby d6_16) rfl ?_
    exact kt
  obtain ⟨fs, hr, hrun, hended, hW, hsame⟩ := X0.leave (v := some (.int (0 : Int32))) (fun h => by rw [Bd.returns] at h; cases h)
  refine ⟨_, _, pre517 _ (retI X0 hx Bd.returns (hb hby d6_17) hr), hrun, hended, _, _, rfl, ?_, ⟨_, rfl⟩, hW, hsame.mono (by decide) (by decide)⟩
  show Q_checkIndex6_1 Z  h0 n0 _ s₁.heap _
  rw [e0]
  exact ⟨rfl, N0, rfl⟩
def Q_checkIndex5_1 (Z : State)  (h0 : Heap) (n0 : Nat) (v : Option Value) (h : Heap) (L : List Loc) : Prop := v = some (.int (0 : Int32)) ∧ Fr n0 L ∧ h = h0
set_option maxRecDepth 65536 in
set_option maxHeartbeats 40000000 in
theorem rm_checkIndex5_1 (l : Launch) (Z : State) (a0 : Array Value) (hw : ∀ d ∈ tables_1, d.before a0 Z = true) (ws : List Jvm.Cond)  (h0 : Heap) (n0 : Nat) (O0 : Old Z n0 h0) :
    MetFree l (⟨"java/util/Objects", "checkIndex", "(II)I"⟩ : MethodName) (head1 (Jvm.Cond.code (⟨"java/util/Objects", "checkIndex", "(II)I"⟩ : MethodName) jdk_31_method_17_code 2 (some .int) :: ws) ({ frames := 1, cells := 0, slots := 0, locals := 14 } : Room)) (fun a U => a = #[(.int (0 : Int32)), (.int (2 : Int32))] ∧ Z.Warmed39 U.vm ∧ U.heap = h0) (fun _ _ _ _ _ => True) (fun _ U o U' => ∃ v L, o = .returned v ∧ Q_checkIndex5_1 Z  h0 n0 v U'.heap L ∧ FrameEnd U o U' L ({ frames := 1, cells := 0, slots := 0, locals := 14 } : Room).cells ({ frames := 1, cells := 0, slots := 0, locals := 14 } : Room).slots) := by
  refine MetFree.of_bodySF (plainFor_of_name pn_10) hisR ?_
  intro p e s m args below meth c s₁ Bd hml0 hP hK
  have W := fun {d : Jvm.Cond} (i : Nat) (q : tables_1[i]? = some d) => hw d (List.mem_of_getElem? q)
  obtain ⟨rfl, hZ, hh⟩ := hP
  have hx := Bd.exec
  have hby := Bd.bytes
  have hml : c.maxLocals = 2 := hml0
  have hown : s.vm.findClass "java/util/Objects" = some m.cls := findClass_of_methodNamed Bd.named
  have hnm := (name_of_methodNamed Bd.named Bd.method).1
  have X0 : Stand p l e ({ frames := 1, cells := 0, slots := 0, locals := 14 } : Room) s m #[(.int (0 : Int32)), (.int (2 : Int32))] below meth c s₁ [] 0 0 := Stand.of_body Bd
  have e0 : s₁.heap = h0 := by rw [← hh, Bd.state]; rfl
  have N0 := Fr.nil n0
  have pre0 : ∀ t, Steps p.tables e below (s₁.setTop (mkF m 0 #[iv (0 : Int32), iv (2 : Int32)] [])) t → Steps p.tables e below (s₁.setTop (entryFrame m #[(.int (0 : Int32)), (.int (2 : Int32))] 2)) t := fun t k => castTop (ef_11 m (0 : Int32) (2 : Int32)) k
  have K0 : Keep h0 h0 [] := Keep.refl h0 []
  have pre522 : ∀ t, Steps p.tables e below (s₁.setTop (mkF m 3 #[iv (0 : Int32), iv (2 : Int32)] [.null, (.int (2 : Int32)), (.int (0 : Int32))])) t → Steps p.tables e below (s₁.setTop (entryFrame m #[(.int (0 : Int32)), (.int (2 : Int32))] 2)) t := fun t kt => by
    refine pre0 _ ?_
    show Steps p.tables e below (s₁.setTop (mkF m 0 #[iv (0 : Int32), iv (2 : Int32)] [])) _
    refine XS.iloadN X0.here hx rfl (hb hby d5_0) rfl ?_
    show Steps p.tables e below (s₁.setTop (mkF m 1 #[iv (0 : Int32), iv (2 : Int32)] [(.int (0 : Int32))])) _
    refine XS.iloadN X0.here hx rfl (hb hby d5_1) rfl ?_
    show Steps p.tables e below (s₁.setTop (mkF m 2 #[iv (0 : Int32), iv (2 : Int32)] [(.int (2 : Int32)), (.int (0 : Int32))])) _
    refine XS.aconstNull X0.here hx rfl (hb hby d5_2) ?_
    exact kt
  obtain ⟨_, _, ⟨T523, L523, k523, n523⟩, -, X523, ⟨Lc523, hQ523, l523, y523, z523⟩, st523⟩ := Jvm.LawKit.callS X0 hx (y := (⟨"jdk/internal/util/Preconditions", "checkIndex", "(IILjava/util/function/BiFunction;)I"⟩ : MethodName)) hown (mvT hZ (W 33 rfl)) (mvT hZ (W 34 rfl)) (mvT hZ (W 35 rfl)) (mvT hZ (W 36 rfl)) (by decide) (backOf (W := 0) (rm_checkIndex6_1 l Z a0 hw [] h0 n0 O0) hZ (W 36 rfl) (W 35 rfl) (by decide) (by decide)) (g := (mkF m 3 #[iv (0 : Int32), iv (2 : Int32)] [.null, (.int (2 : Int32)), (.int (0 : Int32))])) rfl (by rw [hml]; rfl) (argsL := [(.int (0 : Int32)), (.int (2 : Int32)), .null]) (rest := []) (lenOf pd_9 rfl) rfl (by show 2 * 0 + _ ≤ _; exact Nat.le_of_eq rfl) (hb hby d5_3) (fun _ _ => ⟨rfl, e0, (by decide : 0 + 0 ≤ _), (by decide : 0 + 0 ≤ _)⟩)
  dsimp only [Pt.U, Pt.locs, Pt.cells, Pt.slots] at X523 l523 y523 z523 st523 hQ523
  replace l523 := l523.symm
  replace y523 : 0 = k523 := y523.symm
  replace z523 : 0 = n523 := z523.symm
  subst l523 y523 z523
  obtain ⟨rfl, M523, e523⟩ := hQ523
  have N523 := Fr.app N0 M523
  have pre524 : ∀ t, Steps p.tables e below (T523.setTop (mkF m 6 #[iv (0 : Int32), iv (2 : Int32)] [(.int (0 : Int32))])) t → Steps p.tables e below (s₁.setTop (entryFrame m #[(.int (0 : Int32)), (.int (2 : Int32))] 2)) t := fun t kt => pre522 _ (st523 _ kt)
  obtain ⟨fs, hr, hrun, hended, hW, hsame⟩ := X523.leave (v := some (.int (0 : Int32))) (fun h => by rw [Bd.returns] at h; cases h)
  refine ⟨_, _, pre524 _ (retI X523 hx Bd.returns (hb hby d5_6) hr), hrun, hended, _, _, rfl, ?_, ⟨_, rfl⟩, hW, hsame.mono (by decide) (by decide)⟩
  show Q_checkIndex5_1 Z  h0 n0 _ T523.heap _
  rw [e523]
  exact ⟨rfl, N523, rfl⟩
def Q_get4_1 (Z : State) (b340 : Addr) (k51_346 : ClassId) (b51_346 : Addr) (b221_349 : Addr) (p0 : Int32) (p1 : Int32) (k221_349 : ClassId) (h0 : Heap) (n0 : Nat) (v : Option Value) (h : Heap) (L : List Loc) : Prop := v = some (.int p0) ∧ Fr n0 L ∧ h = h0
set_option maxRecDepth 65536 in
set_option maxHeartbeats 40000000 in
theorem rm_get4_1 (l : Launch) (Z : State) (a0 : Array Value) (hw : ∀ d ∈ tables_1, d.before a0 Z = true) (ws : List Jvm.Cond) (b340 : Addr) (k51_346 : ClassId) (b51_346 : Addr) (b221_349 : Addr) (p0 : Int32) (p1 : Int32) (k221_349 : ClassId) (h0 : Heap) (n0 : Nat) (O0 : Old Z n0 h0) (Fi0 : Arv Z h0 b51_346 k51_346 (.array .int) (1 : Int32) [(.ref b221_349)] .null) (Fi1 : Fld Z h0 b340 "org/reachwatch/IntBlocks" "blocks" "[[I" (.ref b51_346)) (Fi2 : Arv Z h0 b221_349 k221_349 .int (16 : Int32) [(.int p0), (.int p1), (.int (0 : Int32)), (.int (0 : Int32)), (.int (0 : Int32)), (.int (0 : Int32)), (.int (0 : Int32)), (.int (0 : Int32)), (.int (0 : Int32)), (.int (0 : Int32)), (.int (0 : Int32)), (.int (0 : Int32)), (.int (0 : Int32)), (.int (0 : Int32)), (.int (0 : Int32)), (.int (0 : Int32))] (.int (0 : Int32))) (Fi3 : Fld Z h0 b340 "org/reachwatch/IntBlocks" "size" "I" (.int (2 : Int32))) :
    MetFree l (⟨"org/reachwatch/IntBlocks", "get", "(I)I"⟩ : MethodName) (head1 (Jvm.Cond.code (⟨"org/reachwatch/IntBlocks", "get", "(I)I"⟩ : MethodName) prog_56_method_3_code 2 (some .int) :: ws) ({ frames := 2, cells := 0, slots := 0, locals := 27 } : Room)) (fun a U => a = #[(.ref b340), (.int (0 : Int32))] ∧ Z.Warmed39 U.vm ∧ U.heap = h0) (fun _ _ _ _ _ => True) (fun _ U o U' => ∃ v L, o = .returned v ∧ Q_get4_1 Z b340 k51_346 b51_346 b221_349 p0 p1 k221_349 h0 n0 v U'.heap L ∧ FrameEnd U o U' L ({ frames := 2, cells := 0, slots := 0, locals := 27 } : Room).cells ({ frames := 2, cells := 0, slots := 0, locals := 27 } : Room).slots) := by
  refine MetFree.of_bodySF (plainFor_of_name pn_2) hisR ?_
  intro p e s m args below meth c s₁ Bd hml0 hP hK
  have W := fun {d : Jvm.Cond} (i : Nat) (q : tables_1[i]? = some d) => hw d (List.mem_of_getElem? q)
  obtain ⟨rfl, hZ, hh⟩ := hP
  have hx := Bd.exec
  have hby := Bd.bytes
  have hml : c.maxLocals = 2 := hml0
  have hown : s.vm.findClass "org/reachwatch/IntBlocks" = some m.cls := findClass_of_methodNamed Bd.named
  have hnm := (name_of_methodNamed Bd.named Bd.method).1
  have X0 : Stand p l e ({ frames := 2, cells := 0, slots := 0, locals := 27 } : Room) s m #[(.ref b340), (.int (0 : Int32))] below meth c s₁ [] 0 0 := Stand.of_body Bd
  have e0 : s₁.heap = h0 := by rw [← hh, Bd.state]; rfl
  have N0 := Fr.nil n0
  have pre0 : ∀ t, Steps p.tables e below (s₁.setTop (mkF m 0 #[rv b340, iv (0 : Int32)] [])) t → Steps p.tables e below (s₁.setTop (entryFrame m #[(.ref b340), (.int (0 : Int32))] 2)) t := fun t k => castTop (ef_13 m b340 (0 : Int32)) k
  have K0 : Keep h0 h0 [] := Keep.refl h0 []
  have pre547 : ∀ t, Steps p.tables e below (s₁.setTop (mkF m 2 #[rv b340, iv (0 : Int32)] [(.ref b340), (.int (0 : Int32))])) t → Steps p.tables e below (s₁.setTop (entryFrame m #[(.ref b340), (.int (0 : Int32))] 2)) t := fun t kt => by
    refine pre0 _ ?_
    show Steps p.tables e below (s₁.setTop (mkF m 0 #[rv b340, iv (0 : Int32)] [])) _
    refine XS.iloadN X0.here hx rfl (hb hby d4_0) rfl ?_
    show Steps p.tables e below (s₁.setTop (mkF m 1 #[rv b340, iv (0 : Int32)] [(.int (0 : Int32))])) _
    refine XS.aloadN X0.here hx rfl (hb hby d4_1) rfl rfl ?_
    exact kt
  obtain ⟨T548, X548, e548, st548⟩ := getF X0 hx hZ hown (host := "") (Or.inl (W 18 rfl)) Via.refl e0 Fi3 (g := (mkF m 2 #[rv b340, iv (0 : Int32)] [(.ref b340), (.int (0 : Int32))])) rfl rfl (hb hby d4_2)
  have pre549 : ∀ t, Steps p.tables e below (T548.setTop (mkF m 5 #[rv b340, iv (0 : Int32)] [(.int (2 : Int32)), (.int (0 : Int32))])) t → Steps p.tables e below (s₁.setTop (entryFrame m #[(.ref b340), (.int (0 : Int32))] 2)) t := fun t kt => pre547 _ (st548 _ kt)
  obtain ⟨_, _, ⟨T550, L550, k550, n550⟩, -, X550, ⟨Lc550, hQ550, l550, y550, z550⟩, st550⟩ := Jvm.LawKit.callS X548 hx (y := (⟨"java/util/Objects", "checkIndex", "(II)I"⟩ : MethodName)) hown (mvT hZ (W 29 rfl)) (mvT hZ (W 30 rfl)) (mvT hZ (W 31 rfl)) (mvT hZ (W 32 rfl)) (by decide) (backOf (W := 0) (rm_checkIndex5_1 l Z a0 hw [] h0 n0 O0) hZ (W 32 rfl) (W 31 rfl) (by decide) (by decide)) (g := (mkF m 5 #[rv b340, iv (0 : Int32)] [(.int (2 : Int32)), (.int (0 : Int32))])) rfl (by rw [hml]; rfl) (argsL := [(.int (0 : Int32)), (.int (2 : Int32))]) (rest := []) (lenOf pd_12 rfl) rfl (by show 2 * 0 + _ ≤ _; exact Nat.le_of_eq rfl) (hb hby d4_5) (fun _ _ => ⟨rfl, e548, (by decide : 0 + 0 ≤ _), (by decide : 0 + 0 ≤ _)⟩)
  dsimp only [Pt.U, Pt.locs, Pt.cells, Pt.slots] at X550 l550 y550 z550 st550 hQ550
  replace l550 := l550.symm
  replace y550 : 0 = k550 := y550.symm
  replace z550 : 0 = n550 := z550.symm
  subst l550 y550 z550
  obtain ⟨rfl, M550, e550⟩ := hQ550
  have N550 := Fr.app N0 M550
  have pre551 : ∀ t, Steps p.tables e below (T550.setTop (mkF m 8 #[rv b340, iv (0 : Int32)] [(.int (0 : Int32))])) t → Steps p.tables e below (s₁.setTop (entryFrame m #[(.ref b340), (.int (0 : Int32))] 2)) t := fun t kt => pre549 _ (st550 _ kt)
  have pre552 : ∀ t, Steps p.tables e below (T550.setTop (mkF m 10 #[rv b340, iv (0 : Int32)] [(.ref b340)])) t → Steps p.tables e below (s₁.setTop (entryFrame m #[(.ref b340), (.int (0 : Int32))] 2)) t := fun t kt => by
    refine pre551 _ ?_
    show Steps p.tables e below (T550.setTop (mkF m 8 #[rv b340, iv (0 : Int32)] [(.int (0 : Int32))])) _
    refine XS.pop X550.here hx rfl (hb hby d4_8) rfl rfl ?_
    show Steps p.tables e below (T550.setTop (mkF m 9 #[rv b340, iv (0 : Int32)] [])) _
    refine XS.aloadN X550.here hx rfl (hb hby d4_9) rfl rfl ?_
    exact kt
  obtain ⟨T553, X553, e553, st553⟩ := getF X550 hx hZ hown (host := "") (Or.inl (W 11 rfl)) Via.refl e550 Fi1 (g := (mkF m 10 #[rv b340, iv (0 : Int32)] [(.ref b340)])) rfl rfl (hb hby d4_10)
  have pre554 : ∀ t, Steps p.tables e below (T553.setTop (mkF m 13 #[rv b340, iv (0 : Int32)] [(.ref b51_346)])) t → Steps p.tables e below (s₁.setTop (entryFrame m #[(.ref b340), (.int (0 : Int32))] 2)) t := fun t kt => pre552 _ (st553 _ kt)
  have pre556 : ∀ t, Steps p.tables e below (T553.setTop (mkF m 17 #[rv b340, iv (0 : Int32)] [(.int (0 : Int32)), (.ref b51_346)])) t → Steps p.tables e below (s₁.setTop (entryFrame m #[(.ref b340), (.int (0 : Int32))] 2)) t := fun t kt => by
    refine pre554 _ ?_
    show Steps p.tables e below (T553.setTop (mkF m 13 #[rv b340, iv (0 : Int32)] [(.ref b51_346)])) _
    refine XS.iloadN X553.here hx rfl (hb hby d4_13) rfl ?_
    show Steps p.tables e below (T553.setTop (mkF m 14 #[rv b340, iv (0 : Int32)] [(.int (0 : Int32)), (.ref b51_346)])) _
    refine X553.ldcInt hx hown (mvT hZ (W 20 rfl)) (g := (mkF m 14 #[rv b340, iv (0 : Int32)] [(.int (0 : Int32)), (.ref b51_346)])) rfl (hb hby d4_14) _ ?_
    show Steps p.tables e below (T553.setTop (mkF m 16 #[rv b340, iv (0 : Int32)] [(.int (65536 : Int32)), (.int (0 : Int32)), (.ref b51_346)])) _
    refine XS.idiv X553.here hx rfl (hb hby d4_16) rfl (by decide) ?_
    show  Steps p.tables e below (T553.setTop (mkF m 17 #[rv b340, iv (0 : Int32)] [(.int ((0 : Int32) / (65536 : Int32))), (.ref b51_346)])) _
    rw [(by decide : (((0 : Int32) / (65536 : Int32)) : Int32) = (0 : Int32))]
    exact kt
  obtain ⟨c555, Ar555, q555, S555, M555, H555, G555⟩ := id Fi0
  have i555 : ¬ ((0 : Int32) < 0 ∨ c555.slots.size ≤ ((0 : Int32)).toNatClampNeg) := inb_of S555 ⟨by decide, by decide⟩
  have t555 : c555.slots[((0 : Int32)).toNatClampNeg]? = some (.ref b221_349) := Has.at H555 i555 rfl
  have pre558 : ∀ t, Steps p.tables e below (T553.setTop (mkF m 22 #[rv b340, iv (0 : Int32)] [(.int (0 : Int32)), (.ref b221_349)])) t → Steps p.tables e below (s₁.setTop (entryFrame m #[(.ref b340), (.int (0 : Int32))] 2)) t := fun t kt => by
    refine pre556 _ ?_
    show Steps p.tables e below (T553.setTop (mkF m 17 #[rv b340, iv (0 : Int32)] [(.int (0 : Int32)), (.ref b51_346)])) _
    refine X553.aaload hx (j := (0 : Int32)) (v := (.ref b221_349)) (by rw [e553]; exact Ar555.1) (State.isArrayOf_alike hZ.alike Ar555.2.1) rfl Ar555.2.2 i555 t555 (g := (mkF m 17 #[rv b340, iv (0 : Int32)] [(.int (0 : Int32)), (.ref b51_346)])) rfl rfl (hb hby d4_17) _ ?_
    show Steps p.tables e below (T553.setTop (mkF m 18 #[rv b340, iv (0 : Int32)] [(.ref b221_349)])) _
    refine XS.iloadN X553.here hx rfl (hb hby d4_18) rfl ?_
    show Steps p.tables e below (T553.setTop (mkF m 19 #[rv b340, iv (0 : Int32)] [(.int (0 : Int32)), (.ref b221_349)])) _
    refine X553.ldcInt hx hown (mvT hZ (W 20 rfl)) (g := (mkF m 19 #[rv b340, iv (0 : Int32)] [(.int (0 : Int32)), (.ref b221_349)])) rfl (hb hby d4_19) _ ?_
    show Steps p.tables e below (T553.setTop (mkF m 21 #[rv b340, iv (0 : Int32)] [(.int (65536 : Int32)), (.int (0 : Int32)), (.ref b221_349)])) _
    refine XS.irem X553.here hx rfl (hb hby d4_21) rfl (by decide) ?_
    show  Steps p.tables e below (T553.setTop (mkF m 22 #[rv b340, iv (0 : Int32)] [(.int ((0 : Int32) - ((0 : Int32) / (65536 : Int32)) * (65536 : Int32))), (.ref b221_349)])) _
    rw [(by decide : (((0 : Int32) - ((0 : Int32) / (65536 : Int32)) * (65536 : Int32)) : Int32) = (0 : Int32))]
    exact kt
  obtain ⟨c557, Ar557, q557, S557, M557, H557, G557⟩ := id Fi2
  have i557 : ¬ ((0 : Int32) < 0 ∨ c557.slots.size ≤ ((0 : Int32)).toNatClampNeg) := inb_of S557 ⟨by decide, by decide⟩
  have t557 : c557.slots[((0 : Int32)).toNatClampNeg]? = some (.int p0) := Has.at H557 i557 rfl
  have pre559 : ∀ t, Steps p.tables e below (T553.setTop (mkF m 23 #[rv b340, iv (0 : Int32)] [(.int p0)])) t → Steps p.tables e below (s₁.setTop (entryFrame m #[(.ref b340), (.int (0 : Int32))] 2)) t := fun t kt => by
    refine pre558 _ ?_
    show Steps p.tables e below (T553.setTop (mkF m 22 #[rv b340, iv (0 : Int32)] [(.int (0 : Int32)), (.ref b221_349)])) _
    refine X553.iaload hx (j := (0 : Int32)) (v := (.int p0)) (by rw [e553]; exact Ar557.1) (State.isArrayOf_alike hZ.alike Ar557.2.1) Ar557.2.2 i557 t557 (g := (mkF m 22 #[rv b340, iv (0 : Int32)] [(.int (0 : Int32)), (.ref b221_349)])) rfl rfl (hb hby d4_22) _ ?_
    exact kt
  obtain ⟨fs, hr, hrun, hended, hW, hsame⟩ := X553.leave (v := some (.int p0)) (fun h => by rw [Bd.returns] at h; cases h)
  refine ⟨_, _, pre559 _ (retI X553 hx Bd.returns (hb hby d4_23) hr), hrun, hended, _, _, rfl, ?_, ⟨_, rfl⟩, hW, hsame.mono (by decide) (by decide)⟩
  show Q_get4_1 Z b340 k51_346 b51_346 b221_349 p0 p1 k221_349 h0 n0 _ T553.heap _
  rw [e553]
  exact ⟨rfl, N550, rfl⟩
def Q_checkIndex6_2 (Z : State)  (h0 : Heap) (n0 : Nat) (v : Option Value) (h : Heap) (L : List Loc) : Prop := v = some (.int (1 : Int32)) ∧ Fr n0 L ∧ h = h0
set_option maxRecDepth 65536 in
set_option maxHeartbeats 40000000 in
theorem rm_checkIndex6_2 (l : Launch) (Z : State) (a0 : Array Value) (hw : ∀ d ∈ tables_1, d.before a0 Z = true) (ws : List Jvm.Cond)  (h0 : Heap) (n0 : Nat) (O0 : Old Z n0 h0) :
    MetFree l (⟨"jdk/internal/util/Preconditions", "checkIndex", "(IILjava/util/function/BiFunction;)I"⟩ : MethodName) (head1 (Jvm.Cond.code (⟨"jdk/internal/util/Preconditions", "checkIndex", "(IILjava/util/function/BiFunction;)I"⟩ : MethodName) jdk_41_method_11_code 3 (some .int) :: ws) ({ frames := 0, cells := 0, slots := 0, locals := 0 } : Room)) (fun a U => a = #[(.int (1 : Int32)), (.int (2 : Int32)), .null] ∧ Z.Warmed39 U.vm ∧ U.heap = h0) (fun _ _ _ _ _ => True) (fun _ U o U' => ∃ v L, o = .returned v ∧ Q_checkIndex6_2 Z  h0 n0 v U'.heap L ∧ FrameEnd U o U' L ({ frames := 0, cells := 0, slots := 0, locals := 0 } : Room).cells ({ frames := 0, cells := 0, slots := 0, locals := 0 } : Room).slots) := by
  refine MetFree.of_bodySF (plainFor_of_name pn_7) hisR ?_
  intro p e s m args below meth c s₁ Bd hml0 hP hK
  have W := fun {d : Jvm.Cond} (i : Nat) (q : tables_1[i]? = some d) => hw d (List.mem_of_getElem? q)
  obtain ⟨rfl, hZ, hh⟩ := hP
  have hx := Bd.exec
  have hby := Bd.bytes
  have hml : c.maxLocals = 3 := hml0
  have hown : s.vm.findClass "jdk/internal/util/Preconditions" = some m.cls := findClass_of_methodNamed Bd.named
  have hnm := (name_of_methodNamed Bd.named Bd.method).1
  have X0 : Stand p l e ({ frames := 0, cells := 0, slots := 0, locals := 0 } : Room) s m #[(.int (1 : Int32)), (.int (2 : Int32)), .null] below meth c s₁ [] 0 0 := Stand.of_body Bd
  have e0 : s₁.heap = h0 := by rw [← hh, Bd.state]; rfl
  have N0 := Fr.nil n0
  have pre0 : ∀ t, Steps p.tables e below (s₁.setTop (mkF m 0 #[iv (1 : Int32), iv (2 : Int32), .val .null] [])) t → Steps p.tables e below (s₁.setTop (entryFrame m #[(.int (1 : Int32)), (.int (2 : Int32)), .null] 3)) t := fun t k => castTop (ef_8 m (1 : Int32) (2 : Int32)) k
  have K0 : Keep h0 h0 [] := Keep.refl h0 []
  have pre571 : ∀ t, Steps p.tables e below (s₁.setTop (mkF m 17 #[iv (1 : Int32), iv (2 : Int32), .val .null] [(.int (1 : Int32))])) t → Steps p.tables e below (s₁.setTop (entryFrame m #[(.int (1 : Int32)), (.int (2 : Int32)), .null] 3)) t := fun t kt => by
    refine pre0 _ ?_
    show Steps p.tables e below (s₁.setTop (mkF m 0 #[iv (1 : Int32), iv (2 : Int32), .val .null] [])) _
    refine XS.iloadN X0.here hx rfl (hb hby d6_0) rfl ?_
    show Steps p.tables e below (s₁.setTop (mkF m 1 #[iv (1 : Int32), iv (2 : Int32), .val .null] [(.int (1 : Int32))])) _
    refine XS.ifNo X0.here hx rfl (hb hby d6_1) rfl (XT.i0_lt_f (by decide)) ?_
    show Steps p.tables e below (s₁.setTop (mkF m 4 #[iv (1 : Int32), iv (2 : Int32), .val .null] [])) _
    refine XS.iloadN X0.here hx rfl (hb hby d6_4) rfl ?_
    show Steps p.tables e below (s₁.setTop (mkF m 5 #[iv (1 : Int32), iv (2 : Int32), .val .null] [(.int (1 : Int32))])) _
    refine XS.iloadN X0.here hx rfl (hb hby d6_5) rfl ?_
    show Steps p.tables e below (s₁.setTop (mkF m 6 #[iv (1 : Int32), iv (2 : Int32), .val .null] [(.int (2 : Int32)), (.int (1 : Int32))])) _
    refine XS.icmpYes X0.here hx rfl (pc0 := 6) (pc' := 16) rfl (hb hby d6_6) rfl (XT.ii_lt_t (by decide)) (by decide) (by decide) ?_
    show Steps p.tables e below (s₁.setTop (mkF m 16 #[iv (1 : Int32), iv (2 : Int32), .val .null] [])) _
    refine XS.iloadN X0.here hx rfl (hb hby d6_16) rfl ?_
    exact kt
  obtain ⟨fs, hr, hrun, hended, hW, hsame⟩ := X0.leave (v := some (.int (1 : Int32))) (fun h => by rw [Bd.returns] at h; cases h)
  refine ⟨_, _, pre571 _ (retI X0 hx Bd.returns (hb hby d6_17) hr), hrun, hended, _, _, rfl, ?_, ⟨_, rfl⟩, hW, hsame.mono (by decide) (by decide)⟩
  show Q_checkIndex6_2 Z  h0 n0 _ s₁.heap _
  rw [e0]
  exact ⟨rfl, N0, rfl⟩
def Q_checkIndex5_2 (Z : State)  (h0 : Heap) (n0 : Nat) (v : Option Value) (h : Heap) (L : List Loc) : Prop := v = some (.int (1 : Int32)) ∧ Fr n0 L ∧ h = h0
set_option maxRecDepth 65536 in
set_option maxHeartbeats 40000000 in
theorem rm_checkIndex5_2 (l : Launch) (Z : State) (a0 : Array Value) (hw : ∀ d ∈ tables_1, d.before a0 Z = true) (ws : List Jvm.Cond)  (h0 : Heap) (n0 : Nat) (O0 : Old Z n0 h0) :
    MetFree l (⟨"java/util/Objects", "checkIndex", "(II)I"⟩ : MethodName) (head1 (Jvm.Cond.code (⟨"java/util/Objects", "checkIndex", "(II)I"⟩ : MethodName) jdk_31_method_17_code 2 (some .int) :: ws) ({ frames := 1, cells := 0, slots := 0, locals := 14 } : Room)) (fun a U => a = #[(.int (1 : Int32)), (.int (2 : Int32))] ∧ Z.Warmed39 U.vm ∧ U.heap = h0) (fun _ _ _ _ _ => True) (fun _ U o U' => ∃ v L, o = .returned v ∧ Q_checkIndex5_2 Z  h0 n0 v U'.heap L ∧ FrameEnd U o U' L ({ frames := 1, cells := 0, slots := 0, locals := 14 } : Room).cells ({ frames := 1, cells := 0, slots := 0, locals := 14 } : Room).slots) := by
  refine MetFree.of_bodySF (plainFor_of_name pn_10) hisR ?_
  intro p e s m args below meth c s₁ Bd hml0 hP hK
  have W := fun {d : Jvm.Cond} (i : Nat) (q : tables_1[i]? = some d) => hw d (List.mem_of_getElem? q)
  obtain ⟨rfl, hZ, hh⟩ := hP
  have hx := Bd.exec
  have hby := Bd.bytes
  have hml : c.maxLocals = 2 := hml0
  have hown : s.vm.findClass "java/util/Objects" = some m.cls := findClass_of_methodNamed Bd.named
  have hnm := (name_of_methodNamed Bd.named Bd.method).1
  have X0 : Stand p l e ({ frames := 1, cells := 0, slots := 0, locals := 14 } : Room) s m #[(.int (1 : Int32)), (.int (2 : Int32))] below meth c s₁ [] 0 0 := Stand.of_body Bd
  have e0 : s₁.heap = h0 := by rw [← hh, Bd.state]; rfl
  have N0 := Fr.nil n0
  have pre0 : ∀ t, Steps p.tables e below (s₁.setTop (mkF m 0 #[iv (1 : Int32), iv (2 : Int32)] [])) t → Steps p.tables e below (s₁.setTop (entryFrame m #[(.int (1 : Int32)), (.int (2 : Int32))] 2)) t := fun t k => castTop (ef_11 m (1 : Int32) (2 : Int32)) k
  have K0 : Keep h0 h0 [] := Keep.refl h0 []
  have pre576 : ∀ t, Steps p.tables e below (s₁.setTop (mkF m 3 #[iv (1 : Int32), iv (2 : Int32)] [.null, (.int (2 : Int32)), (.int (1 : Int32))])) t → Steps p.tables e below (s₁.setTop (entryFrame m #[(.int (1 : Int32)), (.int (2 : Int32))] 2)) t := fun t kt => by
    refine pre0 _ ?_
    show Steps p.tables e below (s₁.setTop (mkF m 0 #[iv (1 : Int32), iv (2 : Int32)] [])) _
    refine XS.iloadN X0.here hx rfl (hb hby d5_0) rfl ?_
    show Steps p.tables e below (s₁.setTop (mkF m 1 #[iv (1 : Int32), iv (2 : Int32)] [(.int (1 : Int32))])) _
    refine XS.iloadN X0.here hx rfl (hb hby d5_1) rfl ?_
    show Steps p.tables e below (s₁.setTop (mkF m 2 #[iv (1 : Int32), iv (2 : Int32)] [(.int (2 : Int32)), (.int (1 : Int32))])) _
    refine XS.aconstNull X0.here hx rfl (hb hby d5_2) ?_
    exact kt
  obtain ⟨_, _, ⟨T577, L577, k577, n577⟩, -, X577, ⟨Lc577, hQ577, l577, y577, z577⟩, st577⟩ := Jvm.LawKit.callS X0 hx (y := (⟨"jdk/internal/util/Preconditions", "checkIndex", "(IILjava/util/function/BiFunction;)I"⟩ : MethodName)) hown (mvT hZ (W 33 rfl)) (mvT hZ (W 34 rfl)) (mvT hZ (W 35 rfl)) (mvT hZ (W 36 rfl)) (by decide) (backOf (W := 0) (rm_checkIndex6_2 l Z a0 hw [] h0 n0 O0) hZ (W 36 rfl) (W 35 rfl) (by decide) (by decide)) (g := (mkF m 3 #[iv (1 : Int32), iv (2 : Int32)] [.null, (.int (2 : Int32)), (.int (1 : Int32))])) rfl (by rw [hml]; rfl) (argsL := [(.int (1 : Int32)), (.int (2 : Int32)), .null]) (rest := []) (lenOf pd_9 rfl) rfl (by show 2 * 0 + _ ≤ _; exact Nat.le_of_eq rfl) (hb hby d5_3) (fun _ _ => ⟨rfl, e0, (by decide : 0 + 0 ≤ _), (by decide : 0 + 0 ≤ _)⟩)
  dsimp only [Pt.U, Pt.locs, Pt.cells, Pt.slots] at X577 l577 y577 z577 st577 hQ577
  replace l577 := l577.symm
  replace y577 : 0 = k577 := y577.symm
  replace z577 : 0 = n577 := z577.symm
  subst l577 y577 z577
  obtain ⟨rfl, M577, e577⟩ := hQ577
  have N577 := Fr.app N0 M577
  have pre578 : ∀ t, Steps p.tables e below (T577.setTop (mkF m 6 #[iv (1 : Int32), iv (2 : Int32)] [(.int (1 : Int32))])) t → Steps p.tables e below (s₁.setTop (entryFrame m #[(.int (1 : Int32)), (.int (2 : Int32))] 2)) t := fun t kt => pre576 _ (st577 _ kt)
  obtain ⟨fs, hr, hrun, hended, hW, hsame⟩ := X577.leave (v := some (.int (1 : Int32))) (fun h => by rw [Bd.returns] at h; cases h)
  refine ⟨_, _, pre578 _ (retI X577 hx Bd.returns (hb hby d5_6) hr), hrun, hended, _, _, rfl, ?_, ⟨_, rfl⟩, hW, hsame.mono (by decide) (by decide)⟩
  show Q_checkIndex5_2 Z  h0 n0 _ T577.heap _
  rw [e577]
  exact ⟨rfl, N577, rfl⟩
def Q_get4_2 (Z : State) (b340 : Addr) (k51_346 : ClassId) (b51_346 : Addr) (b221_349 : Addr) (p0 : Int32) (p1 : Int32) (k221_349 : ClassId) (h0 : Heap) (n0 : Nat) (v : Option Value) (h : Heap) (L : List Loc) : Prop := v = some (.int p1) ∧ Fr n0 L ∧ h = h0
set_option maxRecDepth 65536 in
set_option maxHeartbeats 40000000 in
theorem rm_get4_2 (l : Launch) (Z : State) (a0 : Array Value) (hw : ∀ d ∈ tables_1, d.before a0 Z = true) (ws : List Jvm.Cond) (b340 : Addr) (k51_346 : ClassId) (b51_346 : Addr) (b221_349 : Addr) (p0 : Int32) (p1 : Int32) (k221_349 : ClassId) (h0 : Heap) (n0 : Nat) (O0 : Old Z n0 h0) (Fi0 : Arv Z h0 b51_346 k51_346 (.array .int) (1 : Int32) [(.ref b221_349)] .null) (Fi1 : Fld Z h0 b340 "org/reachwatch/IntBlocks" "blocks" "[[I" (.ref b51_346)) (Fi2 : Arv Z h0 b221_349 k221_349 .int (16 : Int32) [(.int p0), (.int p1), (.int (0 : Int32)), (.int (0 : Int32)), (.int (0 : Int32)), (.int (0 : Int32)), (.int (0 : Int32)), (.int (0 : Int32)), (.int (0 : Int32)), (.int (0 : Int32)), (.int (0 : Int32)), (.int (0 : Int32)), (.int (0 : Int32)), (.int (0 : Int32)), (.int (0 : Int32)), (.int (0 : Int32))] (.int (0 : Int32))) (Fi3 : Fld Z h0 b340 "org/reachwatch/IntBlocks" "size" "I" (.int (2 : Int32))) :
    MetFree l (⟨"org/reachwatch/IntBlocks", "get", "(I)I"⟩ : MethodName) (head1 (Jvm.Cond.code (⟨"org/reachwatch/IntBlocks", "get", "(I)I"⟩ : MethodName) prog_56_method_3_code 2 (some .int) :: ws) ({ frames := 2, cells := 0, slots := 0, locals := 27 } : Room)) (fun a U => a = #[(.ref b340), (.int (1 : Int32))] ∧ Z.Warmed39 U.vm ∧ U.heap = h0) (fun _ _ _ _ _ => True) (fun _ U o U' => ∃ v L, o = .returned v ∧ Q_get4_2 Z b340 k51_346 b51_346 b221_349 p0 p1 k221_349 h0 n0 v U'.heap L ∧ FrameEnd U o U' L ({ frames := 2, cells := 0, slots := 0, locals := 27 } : Room).cells ({ frames := 2, cells := 0, slots := 0, locals := 27 } : Room).slots) := by
  refine MetFree.of_bodySF (plainFor_of_name pn_2) hisR ?_
  intro p e s m args below meth c s₁ Bd hml0 hP hK
  have W := fun {d : Jvm.Cond} (i : Nat) (q : tables_1[i]? = some d) => hw d (List.mem_of_getElem? q)
  obtain ⟨rfl, hZ, hh⟩ := hP
  have hx := Bd.exec
  have hby := Bd.bytes
  have hml : c.maxLocals = 2 := hml0
  have hown : s.vm.findClass "org/reachwatch/IntBlocks" = some m.cls := findClass_of_methodNamed Bd.named
  have hnm := (name_of_methodNamed Bd.named Bd.method).1
  have X0 : Stand p l e ({ frames := 2, cells := 0, slots := 0, locals := 27 } : Room) s m #[(.ref b340), (.int (1 : Int32))] below meth c s₁ [] 0 0 := Stand.of_body Bd
  have e0 : s₁.heap = h0 := by rw [← hh, Bd.state]; rfl
  have N0 := Fr.nil n0
  have pre0 : ∀ t, Steps p.tables e below (s₁.setTop (mkF m 0 #[rv b340, iv (1 : Int32)] [])) t → Steps p.tables e below (s₁.setTop (entryFrame m #[(.ref b340), (.int (1 : Int32))] 2)) t := fun t k => castTop (ef_13 m b340 (1 : Int32)) k
  have K0 : Keep h0 h0 [] := Keep.refl h0 []
  have pre601 : ∀ t, Steps p.tables e below (s₁.setTop (mkF m 2 #[rv b340, iv (1 : Int32)] [(.ref b340), (.int (1 : Int32))])) t → Steps p.tables e below (s₁.setTop (entryFrame m #[(.ref b340), (.int (1 : Int32))] 2)) t := fun t kt => by
    refine pre0 _ ?_
    show Steps p.tables e below (s₁.setTop (mkF m 0 #[rv b340, iv (1 : Int32)] [])) _
    refine XS.iloadN X0.here hx rfl (hb hby d4_0) rfl ?_
    show Steps p.tables e below (s₁.setTop (mkF m 1 #[rv b340, iv (1 : Int32)] [(.int (1 : Int32))])) _
    refine XS.aloadN X0.here hx rfl (hb hby d4_1) rfl rfl ?_
    exact kt
  obtain ⟨T602, X602, e602, st602⟩ := getF X0 hx hZ hown (host := "") (Or.inl (W 18 rfl)) Via.refl e0 Fi3 (g := (mkF m 2 #[rv b340, iv (1 : Int32)] [(.ref b340), (.int (1 : Int32))])) rfl rfl (hb hby d4_2)
  have pre603 : ∀ t, Steps p.tables e below (T602.setTop (mkF m 5 #[rv b340, iv (1 : Int32)] [(.int (2 : Int32)), (.int (1 : Int32))])) t → Steps p.tables e below (s₁.setTop (entryFrame m #[(.ref b340), (.int (1 : Int32))] 2)) t := fun t kt => pre601 _ (st602 _ kt)
  obtain ⟨_, _, ⟨T604, L604, k604, n604⟩, -, X604, ⟨Lc604, hQ604, l604, y604, z604⟩, st604⟩ := Jvm.LawKit.callS X602 hx (y := (⟨"java/util/Objects", "checkIndex", "(II)I"⟩ : MethodName)) hown (mvT hZ (W 29 rfl)) (mvT hZ (W 30 rfl)) (mvT hZ (W 31 rfl)) (mvT hZ (W 32 rfl)) (by decide) (backOf (W := 0) (rm_checkIndex5_2 l Z a0 hw [] h0 n0 O0) hZ (W 32 rfl) (W 31 rfl) (by decide) (by decide)) (g := (mkF m 5 #[rv b340, iv (1 : Int32)] [(.int (2 : Int32)), (.int (1 : Int32))])) rfl (by rw [hml]; rfl) (argsL := [(.int (1 : Int32)), (.int (2 : Int32))]) (rest := []) (lenOf pd_12 rfl) rfl (by show 2 * 0 + _ ≤ _; exact Nat.le_of_eq rfl) (hb hby d4_5) (fun _ _ => ⟨rfl, e602, (by decide : 0 + 0 ≤ _), (by decide : 0 + 0 ≤ _)⟩)
  dsimp only [Pt.U, Pt.locs, Pt.cells, Pt.slots] at X604 l604 y604 z604 st604 hQ604
  replace l604 := l604.symm
  replace y604 : 0 = k604 := y604.symm
  replace z604 : 0 = n604 := z604.symm
  subst l604 y604 z604
  obtain ⟨rfl, M604, e604⟩ := hQ604
  have N604 := Fr.app N0 M604
  have pre605 : ∀ t, Steps p.tables e below (T604.setTop (mkF m 8 #[rv b340, iv (1 : Int32)] [(.int (1 : Int32))])) t → Steps p.tables e below (s₁.setTop (entryFrame m #[(.ref b340), (.int (1 : Int32))] 2)) t := fun t kt => pre603 _ (st604 _ kt)
  have pre606 : ∀ t, Steps p.tables e below (T604.setTop (mkF m 10 #[rv b340, iv (1 : Int32)] [(.ref b340)])) t → Steps p.tables e below (s₁.setTop (entryFrame m #[(.ref b340), (.int (1 : Int32))] 2)) t := fun t kt => by
    refine pre605 _ ?_
    show Steps p.tables e below (T604.setTop (mkF m 8 #[rv b340, iv (1 : Int32)] [(.int (1 : Int32))])) _
    refine XS.pop X604.here hx rfl (hb hby d4_8) rfl rfl ?_
    show Steps p.tables e below (T604.setTop (mkF m 9 #[rv b340, iv (1 : Int32)] [])) _
    refine XS.aloadN X604.here hx rfl (hb hby d4_9) rfl rfl ?_
    exact kt
  obtain ⟨T607, X607, e607, st607⟩ := getF X604 hx hZ hown (host := "") (Or.inl (W 11 rfl)) Via.refl e604 Fi1 (g := (mkF m 10 #[rv b340, iv (1 : Int32)] [(.ref b340)])) rfl rfl (hb hby d4_10)
  have pre608 : ∀ t, Steps p.tables e below (T607.setTop (mkF m 13 #[rv b340, iv (1 : Int32)] [(.ref b51_346)])) t → Steps p.tables e below (s₁.setTop (entryFrame m #[(.ref b340), (.int (1 : Int32))] 2)) t := fun t kt => pre606 _ (st607 _ kt)
  have pre610 : ∀ t, Steps p.tables e below (T607.setTop (mkF m 17 #[rv b340, iv (1 : Int32)] [(.int (0 : Int32)), (.ref b51_346)])) t → Steps p.tables e below (s₁.setTop (entryFrame m #[(.ref b340), (.int (1 : Int32))] 2)) t := fun t kt => by
    refine pre608 _ ?_
    show Steps p.tables e below (T607.setTop (mkF m 13 #[rv b340, iv (1 : Int32)] [(.ref b51_346)])) _
    refine XS.iloadN X607.here hx rfl (hb hby d4_13) rfl ?_
    show Steps p.tables e below (T607.setTop (mkF m 14 #[rv b340, iv (1 : Int32)] [(.int (1 : Int32)), (.ref b51_346)])) _
    refine X607.ldcInt hx hown (mvT hZ (W 20 rfl)) (g := (mkF m 14 #[rv b340, iv (1 : Int32)] [(.int (1 : Int32)), (.ref b51_346)])) rfl (hb hby d4_14) _ ?_
    show Steps p.tables e below (T607.setTop (mkF m 16 #[rv b340, iv (1 : Int32)] [(.int (65536 : Int32)), (.int (1 : Int32)), (.ref b51_346)])) _
    refine XS.idiv X607.here hx rfl (hb hby d4_16) rfl (by decide) ?_
    show  Steps p.tables e below (T607.setTop (mkF m 17 #[rv b340, iv (1 : Int32)] [(.int ((1 : Int32) / (65536 : Int32))), (.ref b51_346)])) _
    rw [(by decide : (((1 : Int32) / (65536 : Int32)) : Int32) = (0 : Int32))]
    exact kt
  obtain ⟨c609, Ar609, q609, S609, M609, H609, G609⟩ := id Fi0
  have i609 : ¬ ((0 : Int32) < 0 ∨ c609.slots.size ≤ ((0 : Int32)).toNatClampNeg) := inb_of S609 ⟨by decide, by decide⟩
  have t609 : c609.slots[((0 : Int32)).toNatClampNeg]? = some (.ref b221_349) := Has.at H609 i609 rfl
  have pre612 : ∀ t, Steps p.tables e below (T607.setTop (mkF m 22 #[rv b340, iv (1 : Int32)] [(.int (1 : Int32)), (.ref b221_349)])) t → Steps p.tables e below (s₁.setTop (entryFrame m #[(.ref b340), (.int (1 : Int32))] 2)) t := fun t kt => by
    refine pre610 _ ?_
    show Steps p.tables e below (T607.setTop (mkF m 17 #[rv b340, iv (1 : Int32)] [(.int (0 : Int32)), (.ref b51_346)])) _
    refine X607.aaload hx (j := (0 : Int32)) (v := (.ref b221_349)) (by rw [e607]; exact Ar609.1) (State.isArrayOf_alike hZ.alike Ar609.2.1) rfl Ar609.2.2 i609 t609 (g := (mkF m 17 #[rv b340, iv (1 : Int32)] [(.int (0 : Int32)), (.ref b51_346)])) rfl rfl (hb hby d4_17) _ ?_
    show Steps p.tables e below (T607.setTop (mkF m 18 #[rv b340, iv (1 : Int32)] [(.ref b221_349)])) _
    refine XS.iloadN X607.here hx rfl (hb hby d4_18) rfl ?_
    show Steps p.tables e below (T607.setTop (mkF m 19 #[rv b340, iv (1 : Int32)] [(.int (1 : Int32)), (.ref b221_349)])) _
    refine X607.ldcInt hx hown (mvT hZ (W 20 rfl)) (g := (mkF m 19 #[rv b340, iv (1 : Int32)] [(.int (1 : Int32)), (.ref b221_349)])) rfl (hb hby d4_19) _ ?_
    show Steps p.tables e below (T607.setTop (mkF m 21 #[rv b340, iv (1 : Int32)] [(.int (65536 : Int32)), (.int (1 : Int32)), (.ref b221_349)])) _
    refine XS.irem X607.here hx rfl (hb hby d4_21) rfl (by decide) ?_
    show  Steps p.tables e below (T607.setTop (mkF m 22 #[rv b340, iv (1 : Int32)] [(.int ((1 : Int32) - ((1 : Int32) / (65536 : Int32)) * (65536 : Int32))), (.ref b221_349)])) _
    rw [(by decide : (((1 : Int32) - ((1 : Int32) / (65536 : Int32)) * (65536 : Int32)) : Int32) = (1 : Int32))]
    exact kt
  obtain ⟨c611, Ar611, q611, S611, M611, H611, G611⟩ := id Fi2
  have i611 : ¬ ((1 : Int32) < 0 ∨ c611.slots.size ≤ ((1 : Int32)).toNatClampNeg) := inb_of S611 ⟨by decide, by decide⟩
  have t611 : c611.slots[((1 : Int32)).toNatClampNeg]? = some (.int p1) := Has.at H611 i611 rfl
  have pre613 : ∀ t, Steps p.tables e below (T607.setTop (mkF m 23 #[rv b340, iv (1 : Int32)] [(.int p1)])) t → Steps p.tables e below (s₁.setTop (entryFrame m #[(.ref b340), (.int (1 : Int32))] 2)) t := fun t kt => by
    refine pre612 _ ?_
    show Steps p.tables e below (T607.setTop (mkF m 22 #[rv b340, iv (1 : Int32)] [(.int (1 : Int32)), (.ref b221_349)])) _
    refine X607.iaload hx (j := (1 : Int32)) (v := (.int p1)) (by rw [e607]; exact Ar611.1) (State.isArrayOf_alike hZ.alike Ar611.2.1) Ar611.2.2 i611 t611 (g := (mkF m 22 #[rv b340, iv (1 : Int32)] [(.int (1 : Int32)), (.ref b221_349)])) rfl rfl (hb hby d4_22) _ ?_
    exact kt
  obtain ⟨fs, hr, hrun, hended, hW, hsame⟩ := X607.leave (v := some (.int p1)) (fun h => by rw [Bd.returns] at h; cases h)
  refine ⟨_, _, pre613 _ (retI X607 hx Bd.returns (hb hby d4_23) hr), hrun, hended, _, _, rfl, ?_, ⟨_, rfl⟩, hW, hsame.mono (by decide) (by decide)⟩
  show Q_get4_2 Z b340 k51_346 b51_346 b221_349 p0 p1 k221_349 h0 n0 _ T607.heap _
  rw [e607]
  exact ⟨rfl, N604, rfl⟩
theorem d7_6 : decode method_3_code 6 = .ok (.iload_n 0, 1) := by decide +kernel
theorem d7_7 : decode method_3_code 7 = .ok (.iconst 1, 1) := by decide +kernel
theorem d7_8 : decode method_3_code 8 = .ok (.if_icmp .ne 5, 3) := by decide +kernel
theorem d7_11 : decode method_3_code 11 = .ok (.iload_n 2, 1) := by decide +kernel
theorem d7_12 : decode method_3_code 12 = .ok (.ireturn, 1) := by decide +kernel
def Q_ref7_1 (Z : State) (p0 : Int32) (p1 : Int32) (p2 : Int32) (p3 : Int32) (h0 : Heap) (n0 : Nat) (v : Option Value) (h : Heap) (L : List Loc) : Prop := v = some (.int p1) ∧ Fr n0 L ∧ h = h0
set_option maxRecDepth 65536 in
set_option maxHeartbeats 40000000 in
theorem rm_ref7_1 (l : Launch) (Z : State) (a0 : Array Value) (hw : ∀ d ∈ tables_1, d.before a0 Z = true) (ws : List Jvm.Cond) (p0 : Int32) (p1 : Int32) (p2 : Int32) (p3 : Int32) (h0 : Heap) (n0 : Nat) (O0 : Old Z n0 h0) :
    MetFree l (⟨"org/reachwatch/IntBlocksGetPinLaw", "ref", "(IIIII)I"⟩ : MethodName) (head1 (Jvm.Cond.code (⟨"org/reachwatch/IntBlocksGetPinLaw", "ref", "(IIIII)I"⟩ : MethodName) method_3_code 5 (some .int) :: ws) ({ frames := 0, cells := 0, slots := 0, locals := 0 } : Room)) (fun a U => a = #[(.int (1 : Int32)), (.int p0), (.int p1), (.int p2), (.int p3)] ∧ Z.Warmed39 U.vm ∧ U.heap = h0) (fun _ _ _ _ _ => True) (fun _ U o U' => ∃ v L, o = .returned v ∧ Q_ref7_1 Z p0 p1 p2 p3 h0 n0 v U'.heap L ∧ FrameEnd U o U' L ({ frames := 0, cells := 0, slots := 0, locals := 0 } : Room).cells ({ frames := 0, cells := 0, slots := 0, locals := 0 } : Room).slots) := by
  refine MetFree.of_bodySF (plainFor_of_name pn_0) hisR ?_
  intro p e s m args below meth c s₁ Bd hml0 hP hK
  have W := fun {d : Jvm.Cond} (i : Nat) (q : tables_1[i]? = some d) => hw d (List.mem_of_getElem? q)
  obtain ⟨rfl, hZ, hh⟩ := hP
  have hx := Bd.exec
  have hby := Bd.bytes
  have hml : c.maxLocals = 5 := hml0
  have hown : s.vm.findClass "org/reachwatch/IntBlocksGetPinLaw" = some m.cls := findClass_of_methodNamed Bd.named
  have hnm := (name_of_methodNamed Bd.named Bd.method).1
  have X0 : Stand p l e ({ frames := 0, cells := 0, slots := 0, locals := 0 } : Room) s m #[(.int (1 : Int32)), (.int p0), (.int p1), (.int p2), (.int p3)] below meth c s₁ [] 0 0 := Stand.of_body Bd
  have e0 : s₁.heap = h0 := by rw [← hh, Bd.state]; rfl
  have N0 := Fr.nil n0
  have pre0 : ∀ t, Steps p.tables e below (s₁.setTop (mkF m 0 #[iv (1 : Int32), iv p0, iv p1, iv p2, iv p3] [])) t → Steps p.tables e below (s₁.setTop (entryFrame m #[(.int (1 : Int32)), (.int p0), (.int p1), (.int p2), (.int p3)] 5)) t := fun t k => castTop (ef_15 m (1 : Int32) p0 p1 p2 p3) k
  have K0 : Keep h0 h0 [] := Keep.refl h0 []
  have pre622 : ∀ t, Steps p.tables e below (s₁.setTop (mkF m 12 #[iv (1 : Int32), iv p0, iv p1, iv p2, iv p3] [(.int p1)])) t → Steps p.tables e below (s₁.setTop (entryFrame m #[(.int (1 : Int32)), (.int p0), (.int p1), (.int p2), (.int p3)] 5)) t := fun t kt => by
    refine pre0 _ ?_
    show Steps p.tables e below (s₁.setTop (mkF m 0 #[iv (1 : Int32), iv p0, iv p1, iv p2, iv p3] [])) _
    refine XS.iloadN X0.here hx rfl (hb hby d7_0) rfl ?_
    show Steps p.tables e below (s₁.setTop (mkF m 1 #[iv (1 : Int32), iv p0, iv p1, iv p2, iv p3] [(.int (1 : Int32))])) _
    refine XS.ifYes X0.here hx rfl (pc0 := 1) (pc' := 6) rfl (hb hby d7_1) rfl (XT.i0_ne_t (by decide)) (by decide) (by decide) ?_
    show Steps p.tables e below (s₁.setTop (mkF m 6 #[iv (1 : Int32), iv p0, iv p1, iv p2, iv p3] [])) _
    refine XS.iloadN X0.here hx rfl (hb hby d7_6) rfl ?_
    show Steps p.tables e below (s₁.setTop (mkF m 7 #[iv (1 : Int32), iv p0, iv p1, iv p2, iv p3] [(.int (1 : Int32))])) _
    refine XS.iconst X0.here hx rfl (hb hby d7_7) ?_
    show Steps p.tables e below (s₁.setTop (mkF m 8 #[iv (1 : Int32), iv p0, iv p1, iv p2, iv p3] [(.int (1 : Int32)), (.int (1 : Int32))])) _
    refine XS.icmpNo X0.here hx rfl (hb hby d7_8) rfl (XT.ii_ne_f (by decide)) ?_
    show Steps p.tables e below (s₁.setTop (mkF m 11 #[iv (1 : Int32), iv p0, iv p1, iv p2, iv p3] [])) _
    refine XS.iloadN X0.here hx rfl (hb hby d7_11) rfl ?_
    exact kt
  obtain ⟨fs, hr, hrun, hended, hW, hsame⟩ := X0.leave (v := some (.int p1)) (fun h => by rw [Bd.returns] at h; cases h)
  refine ⟨_, _, pre622 _ (retI X0 hx Bd.returns (hb hby d7_12) hr), hrun, hended, _, _, rfl, ?_, ⟨_, rfl⟩, hW, hsame.mono (by decide) (by decide)⟩
  show Q_ref7_1 Z p0 p1 p2 p3 h0 n0 _ s₁.heap _
  rw [e0]
  exact ⟨rfl, N0, rfl⟩
def Q_add3_2 (Z : State) (b639 : Addr) (p2 : Int32) (k51_645 : ClassId) (b51_645 : Addr) (b221_648 : Addr) (p0 : Int32) (p1 : Int32) (k221_648 : ClassId) (h0 : Heap) (n0 : Nat) (v : Option Value) (h : Heap) (L : List Loc) : Prop := v = none ∧ Fr n0 L ∧ Keep h0 h [b639, b221_648] ∧ Old Z n0 h ∧ Exa Z h b639 "org/reachwatch/IntBlocks" ∧ Fld Z h b639 "org/reachwatch/IntBlocks" "blocks" "[[I" (.ref b51_645) ∧ Exa Z h b221_648 "[I" ∧ Arv Z h b221_648 k221_648 .int (16 : Int32) [(.int p0), (.int p1), (.int p2), (.int (0 : Int32)), (.int (0 : Int32)), (.int (0 : Int32)), (.int (0 : Int32)), (.int (0 : Int32)), (.int (0 : Int32)), (.int (0 : Int32)), (.int (0 : Int32)), (.int (0 : Int32)), (.int (0 : Int32)), (.int (0 : Int32)), (.int (0 : Int32)), (.int (0 : Int32))] (.int (0 : Int32)) ∧ Fld Z h b639 "org/reachwatch/IntBlocks" "size" "I" (.int (3 : Int32))
set_option maxRecDepth 65536 in
set_option maxHeartbeats 40000000 in
theorem rm_add3_2 (l : Launch) (Z : State) (a0 : Array Value) (hw : ∀ d ∈ tables_1, d.before a0 Z = true) (ws : List Jvm.Cond) (b639 : Addr) (p2 : Int32) (k51_645 : ClassId) (b51_645 : Addr) (b221_648 : Addr) (p0 : Int32) (p1 : Int32) (k221_648 : ClassId) (h0 : Heap) (n0 : Nat) (O0 : Old Z n0 h0) (g_b639 : n0 ≤ b639) (g_b221_648 : n0 ≤ b221_648) (Fi0 : Arv Z h0 b51_645 k51_645 (.array .int) (1 : Int32) [(.ref b221_648)] .null) (Fi1 : Exa Z h0 b639 "org/reachwatch/IntBlocks") (Fi2 : Fld Z h0 b639 "org/reachwatch/IntBlocks" "blocks" "[[I" (.ref b51_645)) (Fi3 : Exa Z h0 b221_648 "[I") (Fi4 : Arv Z h0 b221_648 k221_648 .int (16 : Int32) [(.int p0), (.int p1), (.int (0 : Int32)), (.int (0 : Int32)), (.int (0 : Int32)), (.int (0 : Int32)), (.int (0 : Int32)), (.int (0 : Int32)), (.int (0 : Int32)), (.int (0 : Int32)), (.int (0 : Int32)), (.int (0 : Int32)), (.int (0 : Int32)), (.int (0 : Int32)), (.int (0 : Int32)), (.int (0 : Int32))] (.int (0 : Int32))) (Fi5 : Fld Z h0 b639 "org/reachwatch/IntBlocks" "size" "I" (.int (2 : Int32))) (q0 : ¬ (b51_645 = b639)) (q1 : ¬ (b221_648 = b639)) (q2 : ¬ (b221_648 = b51_645)) :
    MetFree l (⟨"org/reachwatch/IntBlocks", "add", "(I)V"⟩ : MethodName) (head1 (Jvm.Cond.code (⟨"org/reachwatch/IntBlocks", "add", "(I)V"⟩ : MethodName) prog_56_method_2_code 4 none :: ws) ({ frames := 0, cells := 0, slots := 0, locals := 0 } : Room)) (fun a U => a = #[(.ref b639), (.int p2)] ∧ Z.Warmed39 U.vm ∧ U.heap = h0) (fun _ _ _ _ _ => True) (fun _ U o U' => ∃ v L, o = .returned v ∧ Q_add3_2 Z b639 p2 k51_645 b51_645 b221_648 p0 p1 k221_648 h0 n0 v U'.heap L ∧ FrameEnd U o U' L ({ frames := 0, cells := 0, slots := 0, locals := 0 } : Room).cells ({ frames := 0, cells := 0, slots := 0, locals := 0 } : Room).slots) := by
  refine MetFree.of_bodySF (plainFor_of_name pn_2) hisR ?_
  intro p e s m args below meth c s₁ Bd hml0 hP hK
  have W := fun {d : Jvm.Cond} (i : Nat) (q : tables_1[i]? = some d) => hw d (List.mem_of_getElem? q)
  obtain ⟨rfl, hZ, hh⟩ := hP
  have hx := Bd.exec
  have hby := Bd.bytes
  have hml : c.maxLocals = 4 := hml0
  have hown : s.vm.findClass "org/reachwatch/IntBlocks" = some m.cls := findClass_of_methodNamed Bd.named
  have hnm := (name_of_methodNamed Bd.named Bd.method).1
  have X0 : Stand p l e ({ frames := 0, cells := 0, slots := 0, locals := 0 } : Room) s m #[(.ref b639), (.int p2)] below meth c s₁ [] 0 0 := Stand.of_body Bd
  have e0 : s₁.heap = h0 := by rw [← hh, Bd.state]; rfl
  have N0 := Fr.nil n0
  have pre0 : ∀ t, Steps p.tables e below (s₁.setTop (mkF m 0 #[rv b639, iv p2, .unset, .unset] [])) t → Steps p.tables e below (s₁.setTop (entryFrame m #[(.ref b639), (.int p2)] 4)) t := fun t k => castTop (ef_5 m b639 p2) k
  have K0 : Keep h0 h0 [b639, b221_648] := Keep.refl h0 [b639, b221_648]
  have pre757 : ∀ t, Steps p.tables e below (s₁.setTop (mkF m 1 #[rv b639, iv p2, .unset, .unset] [(.ref b639)])) t → Steps p.tables e below (s₁.setTop (entryFrame m #[(.ref b639), (.int p2)] 4)) t := fun t kt => by
    refine pre0 _ ?_
    show Steps p.tables e below (s₁.setTop (mkF m 0 #[rv b639, iv p2, .unset, .unset] [])) _
    refine XS.aloadN X0.here hx rfl (hb hby d3_0) rfl rfl ?_
    exact kt
  obtain ⟨T758, X758, e758, st758⟩ := getF X0 hx hZ hown (host := "") (Or.inl (W 18 rfl)) Via.refl e0 Fi5 (g := (mkF m 1 #[rv b639, iv p2, .unset, .unset] [(.ref b639)])) rfl rfl (hb hby d3_1)
  have pre759 : ∀ t, Steps p.tables e below (T758.setTop (mkF m 4 #[rv b639, iv p2, .unset, .unset] [(.int (2 : Int32))])) t → Steps p.tables e below (s₁.setTop (entryFrame m #[(.ref b639), (.int p2)] 4)) t := fun t kt => pre757 _ (st758 _ kt)
  have pre760 : ∀ t, Steps p.tables e below (T758.setTop (mkF m 9 #[rv b639, iv p2, iv (0 : Int32), .unset] [(.ref b639)])) t → Steps p.tables e below (s₁.setTop (entryFrame m #[(.ref b639), (.int p2)] 4)) t := fun t kt => by
    refine pre759 _ ?_
    show Steps p.tables e below (T758.setTop (mkF m 4 #[rv b639, iv p2, .unset, .unset] [(.int (2 : Int32))])) _
    refine X758.ldcInt hx hown (mvT hZ (W 20 rfl)) (g := (mkF m 4 #[rv b639, iv p2, .unset, .unset] [(.int (2 : Int32))])) rfl (hb hby d3_4) _ ?_
    show Steps p.tables e below (T758.setTop (mkF m 6 #[rv b639, iv p2, .unset, .unset] [(.int (65536 : Int32)), (.int (2 : Int32))])) _
    refine XS.idiv X758.here hx rfl (hb hby d3_6) rfl (by decide) ?_
    show  Steps p.tables e below (T758.setTop (mkF m 7 #[rv b639, iv p2, .unset, .unset] [(.int ((2 : Int32) / (65536 : Int32)))])) _
    rw [(by decide : (((2 : Int32) / (65536 : Int32)) : Int32) = (0 : Int32))]
    show Steps p.tables e below (T758.setTop (mkF m 7 #[rv b639, iv p2, .unset, .unset] [(.int (0 : Int32))])) _
    refine XS.istoreN X758.here hx rfl (hb hby d3_7) rfl (l' := #[rv b639, iv p2, iv (0 : Int32), .unset]) rfl ?_
    show Steps p.tables e below (T758.setTop (mkF m 8 #[rv b639, iv p2, iv (0 : Int32), .unset] [])) _
    refine XS.aloadN X758.here hx rfl (hb hby d3_8) rfl rfl ?_
    exact kt
  obtain ⟨T761, X761, e761, st761⟩ := getF X758 hx hZ hown (host := "") (Or.inl (W 18 rfl)) Via.refl e758 Fi5 (g := (mkF m 9 #[rv b639, iv p2, iv (0 : Int32), .unset] [(.ref b639)])) rfl rfl (hb hby d3_9)
  have pre762 : ∀ t, Steps p.tables e below (T761.setTop (mkF m 12 #[rv b639, iv p2, iv (0 : Int32), .unset] [(.int (2 : Int32))])) t → Steps p.tables e below (s₁.setTop (entryFrame m #[(.ref b639), (.int p2)] 4)) t := fun t kt => pre760 _ (st761 _ kt)
  have pre763 : ∀ t, Steps p.tables e below (T761.setTop (mkF m 18 #[rv b639, iv p2, iv (0 : Int32), iv (2 : Int32)] [(.ref b639), (.int (0 : Int32))])) t → Steps p.tables e below (s₁.setTop (entryFrame m #[(.ref b639), (.int p2)] 4)) t := fun t kt => by
    refine pre762 _ ?_
    show Steps p.tables e below (T761.setTop (mkF m 12 #[rv b639, iv p2, iv (0 : Int32), .unset] [(.int (2 : Int32))])) _
    refine X761.ldcInt hx hown (mvT hZ (W 20 rfl)) (g := (mkF m 12 #[rv b639, iv p2, iv (0 : Int32), .unset] [(.int (2 : Int32))])) rfl (hb hby d3_12) _ ?_
    show Steps p.tables e below (T761.setTop (mkF m 14 #[rv b639, iv p2, iv (0 : Int32), .unset] [(.int (65536 : Int32)), (.int (2 : Int32))])) _
    refine XS.irem X761.here hx rfl (hb hby d3_14) rfl (by decide) ?_
    show  Steps p.tables e below (T761.setTop (mkF m 15 #[rv b639, iv p2, iv (0 : Int32), .unset] [(.int ((2 : Int32) - ((2 : Int32) / (65536 : Int32)) * (65536 : Int32)))])) _
    rw [(by decide : (((2 : Int32) - ((2 : Int32) / (65536 : Int32)) * (65536 : Int32)) : Int32) = (2 : Int32))]
    show Steps p.tables e below (T761.setTop (mkF m 15 #[rv b639, iv p2, iv (0 : Int32), .unset] [(.int (2 : Int32))])) _
    refine XS.istoreN X761.here hx rfl (hb hby d3_15) rfl (l' := #[rv b639, iv p2, iv (0 : Int32), iv (2 : Int32)]) rfl ?_
    show Steps p.tables e below (T761.setTop (mkF m 16 #[rv b639, iv p2, iv (0 : Int32), iv (2 : Int32)] [])) _
    refine XS.iloadN X761.here hx rfl (hb hby d3_16) rfl ?_
    show Steps p.tables e below (T761.setTop (mkF m 17 #[rv b639, iv p2, iv (0 : Int32), iv (2 : Int32)] [(.int (0 : Int32))])) _
    refine XS.aloadN X761.here hx rfl (hb hby d3_17) rfl rfl ?_
    exact kt
  obtain ⟨T764, X764, e764, st764⟩ := getF X761 hx hZ hown (host := "") (Or.inl (W 11 rfl)) Via.refl e761 Fi2 (g := (mkF m 18 #[rv b639, iv p2, iv (0 : Int32), iv (2 : Int32)] [(.ref b639), (.int (0 : Int32))])) rfl rfl (hb hby d3_18)
  have pre765 : ∀ t, Steps p.tables e below (T764.setTop (mkF m 21 #[rv b639, iv p2, iv (0 : Int32), iv (2 : Int32)] [(.ref b51_645), (.int (0 : Int32))])) t → Steps p.tables e below (s₁.setTop (entryFrame m #[(.ref b639), (.int p2)] 4)) t := fun t kt => pre763 _ (st764 _ kt)
  obtain ⟨c766, Ar766, -, S766, M766, -, -⟩ := id Fi0
  have pre767 : ∀ t, Steps p.tables e below (T764.setTop (mkF m 43 #[rv b639, iv p2, iv (0 : Int32), iv (2 : Int32)] [(.ref b639)])) t → Steps p.tables e below (s₁.setTop (entryFrame m #[(.ref b639), (.int p2)] 4)) t := fun t kt => by
    refine pre765 _ ?_
    show Steps p.tables e below (T764.setTop (mkF m 21 #[rv b639, iv p2, iv (0 : Int32), iv (2 : Int32)] [(.ref b51_645), (.int (0 : Int32))])) _
    refine X764.arraylength hx (by rw [e764]; exact Ar766.1) (State.isArrayOf_alike hZ.alike Ar766.2.1) (g := (mkF m 21 #[rv b639, iv p2, iv (0 : Int32), iv (2 : Int32)] [(.ref b51_645), (.int (0 : Int32))])) rfl rfl (hb hby d3_21) _ ?_
    rw [len_of S766 M766]
    show Steps p.tables e below (T764.setTop (mkF m 22 #[rv b639, iv p2, iv (0 : Int32), iv (2 : Int32)] [(.int (1 : Int32)), (.int (0 : Int32))])) _
    refine XS.icmpYes X764.here hx rfl (pc0 := 22) (pc' := 42) rfl (hb hby d3_22) rfl (XT.ii_ne_t (by decide)) (by decide) (by decide) ?_
    show Steps p.tables e below (T764.setTop (mkF m 42 #[rv b639, iv p2, iv (0 : Int32), iv (2 : Int32)] [])) _
    refine XS.aloadN X764.here hx rfl (hb hby d3_42) rfl rfl ?_
    exact kt
  obtain ⟨T768, X768, e768, st768⟩ := getF X764 hx hZ hown (host := "") (Or.inl (W 11 rfl)) Via.refl e764 Fi2 (g := (mkF m 43 #[rv b639, iv p2, iv (0 : Int32), iv (2 : Int32)] [(.ref b639)])) rfl rfl (hb hby d3_43)
  have pre769 : ∀ t, Steps p.tables e below (T768.setTop (mkF m 46 #[rv b639, iv p2, iv (0 : Int32), iv (2 : Int32)] [(.ref b51_645)])) t → Steps p.tables e below (s₁.setTop (entryFrame m #[(.ref b639), (.int p2)] 4)) t := fun t kt => pre767 _ (st768 _ kt)
  have pre771 : ∀ t, Steps p.tables e below (T768.setTop (mkF m 47 #[rv b639, iv p2, iv (0 : Int32), iv (2 : Int32)] [(.int (0 : Int32)), (.ref b51_645)])) t → Steps p.tables e below (s₁.setTop (entryFrame m #[(.ref b639), (.int p2)] 4)) t := fun t kt => by
    refine pre769 _ ?_
    show Steps p.tables e below (T768.setTop (mkF m 46 #[rv b639, iv p2, iv (0 : Int32), iv (2 : Int32)] [(.ref b51_645)])) _
    refine XS.iloadN X768.here hx rfl (hb hby d3_46) rfl ?_
    exact kt
  obtain ⟨c770, Ar770, q770, S770, M770, H770, G770⟩ := id Fi0
  have i770 : ¬ ((0 : Int32) < 0 ∨ c770.slots.size ≤ ((0 : Int32)).toNatClampNeg) := inb_of S770 ⟨by decide, by decide⟩
  have t770 : c770.slots[((0 : Int32)).toNatClampNeg]? = some (.ref b221_648) := Has.at H770 i770 rfl
  have pre772 : ∀ t, Steps p.tables e below (T768.setTop (mkF m 75 #[rv b639, iv p2, iv (0 : Int32), iv (2 : Int32)] [(.ref b639), (.int (2 : Int32))])) t → Steps p.tables e below (s₁.setTop (entryFrame m #[(.ref b639), (.int p2)] 4)) t := fun t kt => by
    refine pre771 _ ?_
    show Steps p.tables e below (T768.setTop (mkF m 47 #[rv b639, iv p2, iv (0 : Int32), iv (2 : Int32)] [(.int (0 : Int32)), (.ref b51_645)])) _
    refine X768.aaload hx (j := (0 : Int32)) (v := (.ref b221_648)) (by rw [e768]; exact Ar770.1) (State.isArrayOf_alike hZ.alike Ar770.2.1) rfl Ar770.2.2 i770 t770 (g := (mkF m 47 #[rv b639, iv p2, iv (0 : Int32), iv (2 : Int32)] [(.int (0 : Int32)), (.ref b51_645)])) rfl rfl (hb hby d3_47) _ ?_
    show Steps p.tables e below (T768.setTop (mkF m 48 #[rv b639, iv p2, iv (0 : Int32), iv (2 : Int32)] [(.ref b221_648)])) _
    refine XS.ifnonnullYes X768.here hx rfl (pc0 := 48) (pc' := 73) rfl (hb hby d3_48) rfl (by decide) (by decide) ?_
    show Steps p.tables e below (T768.setTop (mkF m 73 #[rv b639, iv p2, iv (0 : Int32), iv (2 : Int32)] [])) _
    refine XS.iloadN X768.here hx rfl (hb hby d3_73) rfl ?_
    show Steps p.tables e below (T768.setTop (mkF m 74 #[rv b639, iv p2, iv (0 : Int32), iv (2 : Int32)] [(.int (2 : Int32))])) _
    refine XS.aloadN X768.here hx rfl (hb hby d3_74) rfl rfl ?_
    exact kt
  obtain ⟨T773, X773, e773, st773⟩ := getF X768 hx hZ hown (host := "") (Or.inl (W 11 rfl)) Via.refl e768 Fi2 (g := (mkF m 75 #[rv b639, iv p2, iv (0 : Int32), iv (2 : Int32)] [(.ref b639), (.int (2 : Int32))])) rfl rfl (hb hby d3_75)
  have pre774 : ∀ t, Steps p.tables e below (T773.setTop (mkF m 78 #[rv b639, iv p2, iv (0 : Int32), iv (2 : Int32)] [(.ref b51_645), (.int (2 : Int32))])) t → Steps p.tables e below (s₁.setTop (entryFrame m #[(.ref b639), (.int p2)] 4)) t := fun t kt => pre772 _ (st773 _ kt)
  have pre776 : ∀ t, Steps p.tables e below (T773.setTop (mkF m 79 #[rv b639, iv p2, iv (0 : Int32), iv (2 : Int32)] [(.int (0 : Int32)), (.ref b51_645), (.int (2 : Int32))])) t → Steps p.tables e below (s₁.setTop (entryFrame m #[(.ref b639), (.int p2)] 4)) t := fun t kt => by
    refine pre774 _ ?_
    show Steps p.tables e below (T773.setTop (mkF m 78 #[rv b639, iv p2, iv (0 : Int32), iv (2 : Int32)] [(.ref b51_645), (.int (2 : Int32))])) _
    refine XS.iloadN X773.here hx rfl (hb hby d3_78) rfl ?_
    exact kt
  obtain ⟨c775, Ar775, q775, S775, M775, H775, G775⟩ := id Fi0
  have i775 : ¬ ((0 : Int32) < 0 ∨ c775.slots.size ≤ ((0 : Int32)).toNatClampNeg) := inb_of S775 ⟨by decide, by decide⟩
  have t775 : c775.slots[((0 : Int32)).toNatClampNeg]? = some (.ref b221_648) := Has.at H775 i775 rfl
  have pre778 : ∀ t, Steps p.tables e below (T773.setTop (mkF m 80 #[rv b639, iv p2, iv (0 : Int32), iv (2 : Int32)] [(.ref b221_648), (.int (2 : Int32))])) t → Steps p.tables e below (s₁.setTop (entryFrame m #[(.ref b639), (.int p2)] 4)) t := fun t kt => by
    refine pre776 _ ?_
    show Steps p.tables e below (T773.setTop (mkF m 79 #[rv b639, iv p2, iv (0 : Int32), iv (2 : Int32)] [(.int (0 : Int32)), (.ref b51_645), (.int (2 : Int32))])) _
    refine X773.aaload hx (j := (0 : Int32)) (v := (.ref b221_648)) (by rw [e773]; exact Ar775.1) (State.isArrayOf_alike hZ.alike Ar775.2.1) rfl Ar775.2.2 i775 t775 (g := (mkF m 79 #[rv b639, iv p2, iv (0 : Int32), iv (2 : Int32)] [(.int (0 : Int32)), (.ref b51_645), (.int (2 : Int32))])) rfl rfl (hb hby d3_79) _ ?_
    exact kt
  obtain ⟨c777, Ar777, -, S777, M777, -, -⟩ := id Fi4
  have pre779 : ∀ t, Steps p.tables e below (T773.setTop (mkF m 103 #[rv b639, iv p2, iv (0 : Int32), iv (2 : Int32)] [(.ref b639)])) t → Steps p.tables e below (s₁.setTop (entryFrame m #[(.ref b639), (.int p2)] 4)) t := fun t kt => by
    refine pre778 _ ?_
    show Steps p.tables e below (T773.setTop (mkF m 80 #[rv b639, iv p2, iv (0 : Int32), iv (2 : Int32)] [(.ref b221_648), (.int (2 : Int32))])) _
    refine X773.arraylength hx (by rw [e773]; exact Ar777.1) (State.isArrayOf_alike hZ.alike Ar777.2.1) (g := (mkF m 80 #[rv b639, iv p2, iv (0 : Int32), iv (2 : Int32)] [(.ref b221_648), (.int (2 : Int32))])) rfl rfl (hb hby d3_80) _ ?_
    rw [len_of S777 M777]
    show Steps p.tables e below (T773.setTop (mkF m 81 #[rv b639, iv p2, iv (0 : Int32), iv (2 : Int32)] [(.int (16 : Int32)), (.int (2 : Int32))])) _
    refine XS.icmpYes X773.here hx rfl (pc0 := 81) (pc' := 102) rfl (hb hby d3_81) rfl (XT.ii_ne_t (by decide)) (by decide) (by decide) ?_
    show Steps p.tables e below (T773.setTop (mkF m 102 #[rv b639, iv p2, iv (0 : Int32), iv (2 : Int32)] [])) _
    refine XS.aloadN X773.here hx rfl (hb hby d3_102) rfl rfl ?_
    exact kt
  obtain ⟨T780, X780, e780, st780⟩ := getF X773 hx hZ hown (host := "") (Or.inl (W 11 rfl)) Via.refl e773 Fi2 (g := (mkF m 103 #[rv b639, iv p2, iv (0 : Int32), iv (2 : Int32)] [(.ref b639)])) rfl rfl (hb hby d3_103)
  have pre781 : ∀ t, Steps p.tables e below (T780.setTop (mkF m 106 #[rv b639, iv p2, iv (0 : Int32), iv (2 : Int32)] [(.ref b51_645)])) t → Steps p.tables e below (s₁.setTop (entryFrame m #[(.ref b639), (.int p2)] 4)) t := fun t kt => pre779 _ (st780 _ kt)
  have pre783 : ∀ t, Steps p.tables e below (T780.setTop (mkF m 107 #[rv b639, iv p2, iv (0 : Int32), iv (2 : Int32)] [(.int (0 : Int32)), (.ref b51_645)])) t → Steps p.tables e below (s₁.setTop (entryFrame m #[(.ref b639), (.int p2)] 4)) t := fun t kt => by
    refine pre781 _ ?_
    show Steps p.tables e below (T780.setTop (mkF m 106 #[rv b639, iv p2, iv (0 : Int32), iv (2 : Int32)] [(.ref b51_645)])) _
    refine XS.iloadN X780.here hx rfl (hb hby d3_106) rfl ?_
    exact kt
  obtain ⟨c782, Ar782, q782, S782, M782, H782, G782⟩ := id Fi0
  have i782 : ¬ ((0 : Int32) < 0 ∨ c782.slots.size ≤ ((0 : Int32)).toNatClampNeg) := inb_of S782 ⟨by decide, by decide⟩
  have t782 : c782.slots[((0 : Int32)).toNatClampNeg]? = some (.ref b221_648) := Has.at H782 i782 rfl
  have pre784 : ∀ t, Steps p.tables e below (T780.setTop (mkF m 110 #[rv b639, iv p2, iv (0 : Int32), iv (2 : Int32)] [(.int p2), (.int (2 : Int32)), (.ref b221_648)])) t → Steps p.tables e below (s₁.setTop (entryFrame m #[(.ref b639), (.int p2)] 4)) t := fun t kt => by
    refine pre783 _ ?_
    show Steps p.tables e below (T780.setTop (mkF m 107 #[rv b639, iv p2, iv (0 : Int32), iv (2 : Int32)] [(.int (0 : Int32)), (.ref b51_645)])) _
    refine X780.aaload hx (j := (0 : Int32)) (v := (.ref b221_648)) (by rw [e780]; exact Ar782.1) (State.isArrayOf_alike hZ.alike Ar782.2.1) rfl Ar782.2.2 i782 t782 (g := (mkF m 107 #[rv b639, iv p2, iv (0 : Int32), iv (2 : Int32)] [(.int (0 : Int32)), (.ref b51_645)])) rfl rfl (hb hby d3_107) _ ?_
    show Steps p.tables e below (T780.setTop (mkF m 108 #[rv b639, iv p2, iv (0 : Int32), iv (2 : Int32)] [(.ref b221_648)])) _
    refine XS.iloadN X780.here hx rfl (hb hby d3_108) rfl ?_
    show Steps p.tables e below (T780.setTop (mkF m 109 #[rv b639, iv p2, iv (0 : Int32), iv (2 : Int32)] [(.int (2 : Int32)), (.ref b221_648)])) _
    refine XS.iloadN X780.here hx rfl (hb hby d3_109) rfl ?_
    exact kt
  obtain ⟨c785, Ar785, q785, S785, M785, H785, G785⟩ := id Fi4
  have i785 : ¬ ((2 : Int32) < 0 ∨ c785.slots.size ≤ ((2 : Int32)).toNatClampNeg) := inb_of S785 ⟨by decide, by decide⟩
  obtain ⟨T786, h786, X786, e786, W786, st786⟩ := stI X780 hx hZ e780 Ar785 (j := (2 : Int32)) i785 (g := (mkF m 110 #[rv b639, iv p2, iv (0 : Int32), iv (2 : Int32)] [(.int p2), (.int (2 : Int32)), (.ref b221_648)])) rfl rfl (hb hby d3_110)
  have pre787 : ∀ t, Steps p.tables e below (T786.setTop (mkF m 111 #[rv b639, iv p2, iv (0 : Int32), iv (2 : Int32)] [])) t → Steps p.tables e below (s₁.setTop (entryFrame m #[(.ref b639), (.int p2)] 4)) t := fun t kt => pre784 _ (st786 _ kt)
  have N786 := Fr.snoc X786 N0 g_b221_648
  have O786 := O0.wr W786 g_b221_648
  have K786 : Keep h0 h786 [b639, b221_648] := K0.wr W786 (Or.inl (List.mem_of_getElem? (i := 1) rfl))
  have F788 := Fi0.other W786 (fun q => q2 q.symm)
  have F789 := Fi1.wr W786
  have F790 := Fi2.other W786 (Or.inl (fun q => q1 q.symm))
  have F791 := Fi3.wr W786
  have F792 := Fi5.other W786 (Or.inl (fun q => q1 q.symm))
  have F793 : Arv Z h786 b221_648 k221_648 .int (16 : Int32) [(.int p0), (.int p1), (.int p2), (.int (0 : Int32)), (.int (0 : Int32)), (.int (0 : Int32)), (.int (0 : Int32)), (.int (0 : Int32)), (.int (0 : Int32)), (.int (0 : Int32)), (.int (0 : Int32)), (.int (0 : Int32)), (.int (0 : Int32)), (.int (0 : Int32)), (.int (0 : Int32)), (.int (0 : Int32))] (.int (0 : Int32)) := Arv.set Ar785 q785 S785 M785 H785 G785 rfl W786 2 rfl (Nat.le_of_ble_eq_true rfl)
  have pre794 : ∀ t, Steps p.tables e below (T786.setTop (mkF m 113 #[rv b639, iv p2, iv (0 : Int32), iv (2 : Int32)] [(.ref b639), (.ref b639)])) t → Steps p.tables e below (s₁.setTop (entryFrame m #[(.ref b639), (.int p2)] 4)) t := fun t kt => by
    refine pre787 _ ?_
    show Steps p.tables e below (T786.setTop (mkF m 111 #[rv b639, iv p2, iv (0 : Int32), iv (2 : Int32)] [])) _
    refine XS.aloadN X786.here hx rfl (hb hby d3_111) rfl rfl ?_
    show Steps p.tables e below (T786.setTop (mkF m 112 #[rv b639, iv p2, iv (0 : Int32), iv (2 : Int32)] [(.ref b639)])) _
    refine XS.dup X786.here hx rfl (hb hby d3_112) rfl rfl ?_
    exact kt
  obtain ⟨T795, X795, e795, st795⟩ := getF X786 hx hZ hown (host := "") (Or.inl (W 18 rfl)) Via.refl e786 F792 (g := (mkF m 113 #[rv b639, iv p2, iv (0 : Int32), iv (2 : Int32)] [(.ref b639), (.ref b639)])) rfl rfl (hb hby d3_113)
  have pre796 : ∀ t, Steps p.tables e below (T795.setTop (mkF m 116 #[rv b639, iv p2, iv (0 : Int32), iv (2 : Int32)] [(.int (2 : Int32)), (.ref b639)])) t → Steps p.tables e below (s₁.setTop (entryFrame m #[(.ref b639), (.int p2)] 4)) t := fun t kt => pre794 _ (st795 _ kt)
  have pre797 : ∀ t, Steps p.tables e below (T795.setTop (mkF m 118 #[rv b639, iv p2, iv (0 : Int32), iv (2 : Int32)] [(.int (3 : Int32)), (.ref b639)])) t → Steps p.tables e below (s₁.setTop (entryFrame m #[(.ref b639), (.int p2)] 4)) t := fun t kt => by
    refine pre796 _ ?_
    show Steps p.tables e below (T795.setTop (mkF m 116 #[rv b639, iv p2, iv (0 : Int32), iv (2 : Int32)] [(.int (2 : Int32)), (.ref b639)])) _
    refine XS.iconst X795.here hx rfl (hb hby d3_116) ?_
    show Steps p.tables e below (T795.setTop (mkF m 117 #[rv b639, iv p2, iv (0 : Int32), iv (2 : Int32)] [(.int (1 : Int32)), (.int (2 : Int32)), (.ref b639)])) _
    refine XS.iadd X795.here hx rfl (hb hby d3_117) rfl ?_
    show  Steps p.tables e below (T795.setTop (mkF m 118 #[rv b639, iv p2, iv (0 : Int32), iv (2 : Int32)] [(.int ((2 : Int32) + (1 : Int32))), (.ref b639)])) _
    rw [(by decide : (((2 : Int32) + (1 : Int32)) : Int32) = (3 : Int32))]
    exact kt
  obtain ⟨T798, h798, X798, e798, W798, st798⟩ := putF X795 hx hZ hown (host := "") (Or.inl (W 18 rfl)) Via.refl e795 F792 F789 (Or.inl (W 19 rfl)) (W 1 rfl) (ty := .int) (by decide) rfl rfl (g := (mkF m 118 #[rv b639, iv p2, iv (0 : Int32), iv (2 : Int32)] [(.int (3 : Int32)), (.ref b639)])) rfl rfl (hb hby d3_118)
  have pre799 : ∀ t, Steps p.tables e below (T798.setTop (mkF m 121 #[rv b639, iv p2, iv (0 : Int32), iv (2 : Int32)] [])) t → Steps p.tables e below (s₁.setTop (entryFrame m #[(.ref b639), (.int p2)] 4)) t := fun t kt => pre797 _ (st798 _ kt)
  have N798 := Fr.snoc X798 N786 g_b639
  have O798 := O786.wr W798 g_b639
  have K798 : Keep h0 h798 [b639, b221_648] := K786.wr W798 (Or.inl (List.mem_of_getElem? (i := 0) rfl))
  have F800 := F788.other W798 q0
  have F801 := F789.wr W798
  have F802 := F790.other W798 (Or.inr (slot_ne (Or.inl (W 12 rfl)) (Or.inl (W 19 rfl)) (by decide) (t := (.array (.array .int))) (t' := .int) (by decide) (by decide)))
  have F803 := F791.wr W798
  have F804 := F793.other W798 q1
  have F805 : Fld Z h798 b639 "org/reachwatch/IntBlocks" "size" "I" (.int (3 : Int32)) := F792.same W798
  obtain ⟨fs, hr, hrun, hended, hW, hsame⟩ := X798.leave (v := none) (fun _ => rfl)
  refine ⟨_, _, pre799 _ (X798.returnOut hx Bd.returns (hb hby d3_121) hr), hrun, hended, _, _, rfl, ?_, ⟨_, rfl⟩, hW, hsame.mono (by decide) (by decide)⟩
  show Q_add3_2 Z b639 p2 k51_645 b51_645 b221_648 p0 p1 k221_648 h0 n0 _ T798.heap _
  rw [e798]
  exact ⟨rfl, N798, K798, O798, F801, F802, F803, F804, F805⟩
def Q_checkIndex6_3 (Z : State)  (h0 : Heap) (n0 : Nat) (v : Option Value) (h : Heap) (L : List Loc) : Prop := v = some (.int (0 : Int32)) ∧ Fr n0 L ∧ h = h0
set_option maxRecDepth 65536 in
set_option maxHeartbeats 40000000 in
theorem rm_checkIndex6_3 (l : Launch) (Z : State) (a0 : Array Value) (hw : ∀ d ∈ tables_1, d.before a0 Z = true) (ws : List Jvm.Cond)  (h0 : Heap) (n0 : Nat) (O0 : Old Z n0 h0) :
    MetFree l (⟨"jdk/internal/util/Preconditions", "checkIndex", "(IILjava/util/function/BiFunction;)I"⟩ : MethodName) (head1 (Jvm.Cond.code (⟨"jdk/internal/util/Preconditions", "checkIndex", "(IILjava/util/function/BiFunction;)I"⟩ : MethodName) jdk_41_method_11_code 3 (some .int) :: ws) ({ frames := 0, cells := 0, slots := 0, locals := 0 } : Room)) (fun a U => a = #[(.int (0 : Int32)), (.int (3 : Int32)), .null] ∧ Z.Warmed39 U.vm ∧ U.heap = h0) (fun _ _ _ _ _ => True) (fun _ U o U' => ∃ v L, o = .returned v ∧ Q_checkIndex6_3 Z  h0 n0 v U'.heap L ∧ FrameEnd U o U' L ({ frames := 0, cells := 0, slots := 0, locals := 0 } : Room).cells ({ frames := 0, cells := 0, slots := 0, locals := 0 } : Room).slots) := by
  refine MetFree.of_bodySF (plainFor_of_name pn_7) hisR ?_
  intro p e s m args below meth c s₁ Bd hml0 hP hK
  have W := fun {d : Jvm.Cond} (i : Nat) (q : tables_1[i]? = some d) => hw d (List.mem_of_getElem? q)
  obtain ⟨rfl, hZ, hh⟩ := hP
  have hx := Bd.exec
  have hby := Bd.bytes
  have hml : c.maxLocals = 3 := hml0
  have hown : s.vm.findClass "jdk/internal/util/Preconditions" = some m.cls := findClass_of_methodNamed Bd.named
  have hnm := (name_of_methodNamed Bd.named Bd.method).1
  have X0 : Stand p l e ({ frames := 0, cells := 0, slots := 0, locals := 0 } : Room) s m #[(.int (0 : Int32)), (.int (3 : Int32)), .null] below meth c s₁ [] 0 0 := Stand.of_body Bd
  have e0 : s₁.heap = h0 := by rw [← hh, Bd.state]; rfl
  have N0 := Fr.nil n0
  have pre0 : ∀ t, Steps p.tables e below (s₁.setTop (mkF m 0 #[iv (0 : Int32), iv (3 : Int32), .val .null] [])) t → Steps p.tables e below (s₁.setTop (entryFrame m #[(.int (0 : Int32)), (.int (3 : Int32)), .null] 3)) t := fun t k => castTop (ef_8 m (0 : Int32) (3 : Int32)) k
  have K0 : Keep h0 h0 [] := Keep.refl h0 []
  have pre821 : ∀ t, Steps p.tables e below (s₁.setTop (mkF m 17 #[iv (0 : Int32), iv (3 : Int32), .val .null] [(.int (0 : Int32))])) t → Steps p.tables e below (s₁.setTop (entryFrame m #[(.int (0 : Int32)), (.int (3 : Int32)), .null] 3)) t := fun t kt => by
    refine pre0 _ ?_
    show Steps p.tables e below (s₁.setTop (mkF m 0 #[iv (0 : Int32), iv (3 : Int32), .val .null] [])) _
    refine XS.iloadN X0.here hx rfl (hb hby d6_0) rfl ?_
    show Steps p.tables e below (s₁.setTop (mkF m 1 #[iv (0 : Int32), iv (3 : Int32), .val .null] [(.int (0 : Int32))])) _
    refine XS.ifNo X0.here hx rfl (hb hby d6_1) rfl (XT.i0_lt_f (by decide)) ?_
    show Steps p.tables e below (s₁.setTop (mkF m 4 #[iv (0 : Int32), iv (3 : Int32), .val .null] [])) _
    refine XS.iloadN X0.here hx rfl (hb hby d6_4) rfl ?_
    show Steps p.tables e below (s₁.setTop (mkF m 5 #[iv (0 : Int32), iv (3 : Int32), .val .null] [(.int (0 : Int32))])) _
    refine XS.iloadN X0.here hx rfl (hb hby d6_5) rfl ?_
    show Steps p.tables e below (s₁.setTop (mkF m 6 #[iv (0 : Int32), iv (3 : Int32), .val .null] [(.int (3 : Int32)), (.int (0 : Int32))])) _
    refine XS.icmpYes X0.here hx rfl (pc0 := 6) (pc' := 16) rfl (hb hby d6_6) rfl (XT.ii_lt_t (by decide)) (by decide) (by decide) ?_
    show Steps p.tables e below (s₁.setTop (mkF m 16 #[iv (0 : Int32), iv (3 : Int32), .val .null] [])) _
    refine XS.iloadN X0.here hx rfl (hb hby d6_16) rfl ?_
    exact kt
  obtain ⟨fs, hr, hrun, hended, hW, hsame⟩ := X0.leave (v := some (.int (0 : Int32))) (fun h => by rw [Bd.returns] at h; cases h)
  refine ⟨_, _, pre821 _ (retI X0 hx Bd.returns (hb hby d6_17) hr), hrun, hended, _, _, rfl, ?_, ⟨_, rfl⟩, hW, hsame.mono (by decide) (by decide)⟩
  show Q_checkIndex6_3 Z  h0 n0 _ s₁.heap _
  rw [e0]
  exact ⟨rfl, N0, rfl⟩
def Q_checkIndex5_3 (Z : State)  (h0 : Heap) (n0 : Nat) (v : Option Value) (h : Heap) (L : List Loc) : Prop := v = some (.int (0 : Int32)) ∧ Fr n0 L ∧ h = h0
set_option maxRecDepth 65536 in
set_option maxHeartbeats 40000000 in
theorem rm_checkIndex5_3 (l : Launch) (Z : State) (a0 : Array Value) (hw : ∀ d ∈ tables_1, d.before a0 Z = true) (ws : List Jvm.Cond)  (h0 : Heap) (n0 : Nat) (O0 : Old Z n0 h0) :
    MetFree l (⟨"java/util/Objects", "checkIndex", "(II)I"⟩ : MethodName) (head1 (Jvm.Cond.code (⟨"java/util/Objects", "checkIndex", "(II)I"⟩ : MethodName) jdk_31_method_17_code 2 (some .int) :: ws) ({ frames := 1, cells := 0, slots := 0, locals := 14 } : Room)) (fun a U => a = #[(.int (0 : Int32)), (.int (3 : Int32))] ∧ Z.Warmed39 U.vm ∧ U.heap = h0) (fun _ _ _ _ _ => True) (fun _ U o U' => ∃ v L, o = .returned v ∧ Q_checkIndex5_3 Z  h0 n0 v U'.heap L ∧ FrameEnd U o U' L ({ frames := 1, cells := 0, slots := 0, locals := 14 } : Room).cells ({ frames := 1, cells := 0, slots := 0, locals := 14 } : Room).slots) := by
  refine MetFree.of_bodySF (plainFor_of_name pn_10) hisR ?_
  intro p e s m args below meth c s₁ Bd hml0 hP hK
  have W := fun {d : Jvm.Cond} (i : Nat) (q : tables_1[i]? = some d) => hw d (List.mem_of_getElem? q)
  obtain ⟨rfl, hZ, hh⟩ := hP
  have hx := Bd.exec
  have hby := Bd.bytes
  have hml : c.maxLocals = 2 := hml0
  have hown : s.vm.findClass "java/util/Objects" = some m.cls := findClass_of_methodNamed Bd.named
  have hnm := (name_of_methodNamed Bd.named Bd.method).1
  have X0 : Stand p l e ({ frames := 1, cells := 0, slots := 0, locals := 14 } : Room) s m #[(.int (0 : Int32)), (.int (3 : Int32))] below meth c s₁ [] 0 0 := Stand.of_body Bd
  have e0 : s₁.heap = h0 := by rw [← hh, Bd.state]; rfl
  have N0 := Fr.nil n0
  have pre0 : ∀ t, Steps p.tables e below (s₁.setTop (mkF m 0 #[iv (0 : Int32), iv (3 : Int32)] [])) t → Steps p.tables e below (s₁.setTop (entryFrame m #[(.int (0 : Int32)), (.int (3 : Int32))] 2)) t := fun t k => castTop (ef_11 m (0 : Int32) (3 : Int32)) k
  have K0 : Keep h0 h0 [] := Keep.refl h0 []
  have pre826 : ∀ t, Steps p.tables e below (s₁.setTop (mkF m 3 #[iv (0 : Int32), iv (3 : Int32)] [.null, (.int (3 : Int32)), (.int (0 : Int32))])) t → Steps p.tables e below (s₁.setTop (entryFrame m #[(.int (0 : Int32)), (.int (3 : Int32))] 2)) t := fun t kt => by
    refine pre0 _ ?_
    show Steps p.tables e below (s₁.setTop (mkF m 0 #[iv (0 : Int32), iv (3 : Int32)] [])) _
    refine XS.iloadN X0.here hx rfl (hb hby d5_0) rfl ?_
    show Steps p.tables e below (s₁.setTop (mkF m 1 #[iv (0 : Int32), iv (3 : Int32)] [(.int (0 : Int32))])) _
    refine XS.iloadN X0.here hx rfl (hb hby d5_1) rfl ?_
    show Steps p.tables e below (s₁.setTop (mkF m 2 #[iv (0 : Int32), iv (3 : Int32)] [(.int (3 : Int32)), (.int (0 : Int32))])) _
    refine XS.aconstNull X0.here hx rfl (hb hby d5_2) ?_
    exact kt
  obtain ⟨_, _, ⟨T827, L827, k827, n827⟩, -, X827, ⟨Lc827, hQ827, l827, y827, z827⟩, st827⟩ := Jvm.LawKit.callS X0 hx (y := (⟨"jdk/internal/util/Preconditions", "checkIndex", "(IILjava/util/function/BiFunction;)I"⟩ : MethodName)) hown (mvT hZ (W 33 rfl)) (mvT hZ (W 34 rfl)) (mvT hZ (W 35 rfl)) (mvT hZ (W 36 rfl)) (by decide) (backOf (W := 0) (rm_checkIndex6_3 l Z a0 hw [] h0 n0 O0) hZ (W 36 rfl) (W 35 rfl) (by decide) (by decide)) (g := (mkF m 3 #[iv (0 : Int32), iv (3 : Int32)] [.null, (.int (3 : Int32)), (.int (0 : Int32))])) rfl (by rw [hml]; rfl) (argsL := [(.int (0 : Int32)), (.int (3 : Int32)), .null]) (rest := []) (lenOf pd_9 rfl) rfl (by show 2 * 0 + _ ≤ _; exact Nat.le_of_eq rfl) (hb hby d5_3) (fun _ _ => ⟨rfl, e0, (by decide : 0 + 0 ≤ _), (by decide : 0 + 0 ≤ _)⟩)
  dsimp only [Pt.U, Pt.locs, Pt.cells, Pt.slots] at X827 l827 y827 z827 st827 hQ827
  replace l827 := l827.symm
  replace y827 : 0 = k827 := y827.symm
  replace z827 : 0 = n827 := z827.symm
  subst l827 y827 z827
  obtain ⟨rfl, M827, e827⟩ := hQ827
  have N827 := Fr.app N0 M827
  have pre828 : ∀ t, Steps p.tables e below (T827.setTop (mkF m 6 #[iv (0 : Int32), iv (3 : Int32)] [(.int (0 : Int32))])) t → Steps p.tables e below (s₁.setTop (entryFrame m #[(.int (0 : Int32)), (.int (3 : Int32))] 2)) t := fun t kt => pre826 _ (st827 _ kt)
  obtain ⟨fs, hr, hrun, hended, hW, hsame⟩ := X827.leave (v := some (.int (0 : Int32))) (fun h => by rw [Bd.returns] at h; cases h)
  refine ⟨_, _, pre828 _ (retI X827 hx Bd.returns (hb hby d5_6) hr), hrun, hended, _, _, rfl, ?_, ⟨_, rfl⟩, hW, hsame.mono (by decide) (by decide)⟩
  show Q_checkIndex5_3 Z  h0 n0 _ T827.heap _
  rw [e827]
  exact ⟨rfl, N827, rfl⟩
def Q_get4_3 (Z : State) (b639 : Addr) (k51_645 : ClassId) (b51_645 : Addr) (b221_648 : Addr) (p0 : Int32) (p1 : Int32) (p2 : Int32) (k221_648 : ClassId) (h0 : Heap) (n0 : Nat) (v : Option Value) (h : Heap) (L : List Loc) : Prop := v = some (.int p0) ∧ Fr n0 L ∧ h = h0
set_option maxRecDepth 65536 in
set_option maxHeartbeats 40000000 in
theorem rm_get4_3 (l : Launch) (Z : State) (a0 : Array Value) (hw : ∀ d ∈ tables_1, d.before a0 Z = true) (ws : List Jvm.Cond) (b639 : Addr) (k51_645 : ClassId) (b51_645 : Addr) (b221_648 : Addr) (p0 : Int32) (p1 : Int32) (p2 : Int32) (k221_648 : ClassId) (h0 : Heap) (n0 : Nat) (O0 : Old Z n0 h0) (Fi0 : Arv Z h0 b51_645 k51_645 (.array .int) (1 : Int32) [(.ref b221_648)] .null) (Fi1 : Fld Z h0 b639 "org/reachwatch/IntBlocks" "blocks" "[[I" (.ref b51_645)) (Fi2 : Arv Z h0 b221_648 k221_648 .int (16 : Int32) [(.int p0), (.int p1), (.int p2), (.int (0 : Int32)), (.int (0 : Int32)), (.int (0 : Int32)), (.int (0 : Int32)), (.int (0 : Int32)), (.int (0 : Int32)), (.int (0 : Int32)), (.int (0 : Int32)), (.int (0 : Int32)), (.int (0 : Int32)), (.int (0 : Int32)), (.int (0 : Int32)), (.int (0 : Int32))] (.int (0 : Int32))) (Fi3 : Fld Z h0 b639 "org/reachwatch/IntBlocks" "size" "I" (.int (3 : Int32))) :
    MetFree l (⟨"org/reachwatch/IntBlocks", "get", "(I)I"⟩ : MethodName) (head1 (Jvm.Cond.code (⟨"org/reachwatch/IntBlocks", "get", "(I)I"⟩ : MethodName) prog_56_method_3_code 2 (some .int) :: ws) ({ frames := 2, cells := 0, slots := 0, locals := 27 } : Room)) (fun a U => a = #[(.ref b639), (.int (0 : Int32))] ∧ Z.Warmed39 U.vm ∧ U.heap = h0) (fun _ _ _ _ _ => True) (fun _ U o U' => ∃ v L, o = .returned v ∧ Q_get4_3 Z b639 k51_645 b51_645 b221_648 p0 p1 p2 k221_648 h0 n0 v U'.heap L ∧ FrameEnd U o U' L ({ frames := 2, cells := 0, slots := 0, locals := 27 } : Room).cells ({ frames := 2, cells := 0, slots := 0, locals := 27 } : Room).slots) := by
  refine MetFree.of_bodySF (plainFor_of_name pn_2) hisR ?_
  intro p e s m args below meth c s₁ Bd hml0 hP hK
  have W := fun {d : Jvm.Cond} (i : Nat) (q : tables_1[i]? = some d) => hw d (List.mem_of_getElem? q)
  obtain ⟨rfl, hZ, hh⟩ := hP
  have hx := Bd.exec
  have hby := Bd.bytes
  have hml : c.maxLocals = 2 := hml0
  have hown : s.vm.findClass "org/reachwatch/IntBlocks" = some m.cls := findClass_of_methodNamed Bd.named
  have hnm := (name_of_methodNamed Bd.named Bd.method).1
  have X0 : Stand p l e ({ frames := 2, cells := 0, slots := 0, locals := 27 } : Room) s m #[(.ref b639), (.int (0 : Int32))] below meth c s₁ [] 0 0 := Stand.of_body Bd
  have e0 : s₁.heap = h0 := by rw [← hh, Bd.state]; rfl
  have N0 := Fr.nil n0
  have pre0 : ∀ t, Steps p.tables e below (s₁.setTop (mkF m 0 #[rv b639, iv (0 : Int32)] [])) t → Steps p.tables e below (s₁.setTop (entryFrame m #[(.ref b639), (.int (0 : Int32))] 2)) t := fun t k => castTop (ef_13 m b639 (0 : Int32)) k
  have K0 : Keep h0 h0 [] := Keep.refl h0 []
  have pre851 : ∀ t, Steps p.tables e below (s₁.setTop (mkF m 2 #[rv b639, iv (0 : Int32)] [(.ref b639), (.int (0 : Int32))])) t → Steps p.tables e below (s₁.setTop (entryFrame m #[(.ref b639), (.int (0 : Int32))] 2)) t := fun t kt => by
    refine pre0 _ ?_
    show Steps p.tables e below (s₁.setTop (mkF m 0 #[rv b639, iv (0 : Int32)] [])) _
    refine XS.iloadN X0.here hx rfl (hb hby d4_0) rfl ?_
    show Steps p.tables e below (s₁.setTop (mkF m 1 #[rv b639, iv (0 : Int32)] [(.int (0 : Int32))])) _
    refine XS.aloadN X0.here hx rfl (hb hby d4_1) rfl rfl ?_
    exact kt
  obtain ⟨T852, X852, e852, st852⟩ := getF X0 hx hZ hown (host := "") (Or.inl (W 18 rfl)) Via.refl e0 Fi3 (g := (mkF m 2 #[rv b639, iv (0 : Int32)] [(.ref b639), (.int (0 : Int32))])) rfl rfl (hb hby d4_2)
  have pre853 : ∀ t, Steps p.tables e below (T852.setTop (mkF m 5 #[rv b639, iv (0 : Int32)] [(.int (3 : Int32)), (.int (0 : Int32))])) t → Steps p.tables e below (s₁.setTop (entryFrame m #[(.ref b639), (.int (0 : Int32))] 2)) t := fun t kt => pre851 _ (st852 _ kt)
  obtain ⟨_, _, ⟨T854, L854, k854, n854⟩, -, X854, ⟨Lc854, hQ854, l854, y854, z854⟩, st854⟩ := Jvm.LawKit.callS X852 hx (y := (⟨"java/util/Objects", "checkIndex", "(II)I"⟩ : MethodName)) hown (mvT hZ (W 29 rfl)) (mvT hZ (W 30 rfl)) (mvT hZ (W 31 rfl)) (mvT hZ (W 32 rfl)) (by decide) (backOf (W := 0) (rm_checkIndex5_3 l Z a0 hw [] h0 n0 O0) hZ (W 32 rfl) (W 31 rfl) (by decide) (by decide)) (g := (mkF m 5 #[rv b639, iv (0 : Int32)] [(.int (3 : Int32)), (.int (0 : Int32))])) rfl (by rw [hml]; rfl) (argsL := [(.int (0 : Int32)), (.int (3 : Int32))]) (rest := []) (lenOf pd_12 rfl) rfl (by show 2 * 0 + _ ≤ _; exact Nat.le_of_eq rfl) (hb hby d4_5) (fun _ _ => ⟨rfl, e852, (by decide : 0 + 0 ≤ _), (by decide : 0 + 0 ≤ _)⟩)
  dsimp only [Pt.U, Pt.locs, Pt.cells, Pt.slots] at X854 l854 y854 z854 st854 hQ854
  replace l854 := l854.symm
  replace y854 : 0 = k854 := y854.symm
  replace z854 : 0 = n854 := z854.symm
  subst l854 y854 z854
  obtain ⟨rfl, M854, e854⟩ := hQ854
  have N854 := Fr.app N0 M854
  have pre855 : ∀ t, Steps p.tables e below (T854.setTop (mkF m 8 #[rv b639, iv (0 : Int32)] [(.int (0 : Int32))])) t → Steps p.tables e below (s₁.setTop (entryFrame m #[(.ref b639), (.int (0 : Int32))] 2)) t := fun t kt => pre853 _ (st854 _ kt)
  have pre856 : ∀ t, Steps p.tables e below (T854.setTop (mkF m 10 #[rv b639, iv (0 : Int32)] [(.ref b639)])) t → Steps p.tables e below (s₁.setTop (entryFrame m #[(.ref b639), (.int (0 : Int32))] 2)) t := fun t kt => by
    refine pre855 _ ?_
    show Steps p.tables e below (T854.setTop (mkF m 8 #[rv b639, iv (0 : Int32)] [(.int (0 : Int32))])) _
    refine XS.pop X854.here hx rfl (hb hby d4_8) rfl rfl ?_
    show Steps p.tables e below (T854.setTop (mkF m 9 #[rv b639, iv (0 : Int32)] [])) _
    refine XS.aloadN X854.here hx rfl (hb hby d4_9) rfl rfl ?_
    exact kt
  obtain ⟨T857, X857, e857, st857⟩ := getF X854 hx hZ hown (host := "") (Or.inl (W 11 rfl)) Via.refl e854 Fi1 (g := (mkF m 10 #[rv b639, iv (0 : Int32)] [(.ref b639)])) rfl rfl (hb hby d4_10)
  have pre858 : ∀ t, Steps p.tables e below (T857.setTop (mkF m 13 #[rv b639, iv (0 : Int32)] [(.ref b51_645)])) t → Steps p.tables e below (s₁.setTop (entryFrame m #[(.ref b639), (.int (0 : Int32))] 2)) t := fun t kt => pre856 _ (st857 _ kt)
  have pre860 : ∀ t, Steps p.tables e below (T857.setTop (mkF m 17 #[rv b639, iv (0 : Int32)] [(.int (0 : Int32)), (.ref b51_645)])) t → Steps p.tables e below (s₁.setTop (entryFrame m #[(.ref b639), (.int (0 : Int32))] 2)) t := fun t kt => by
    refine pre858 _ ?_
    show Steps p.tables e below (T857.setTop (mkF m 13 #[rv b639, iv (0 : Int32)] [(.ref b51_645)])) _
    refine XS.iloadN X857.here hx rfl (hb hby d4_13) rfl ?_
    show Steps p.tables e below (T857.setTop (mkF m 14 #[rv b639, iv (0 : Int32)] [(.int (0 : Int32)), (.ref b51_645)])) _
    refine X857.ldcInt hx hown (mvT hZ (W 20 rfl)) (g := (mkF m 14 #[rv b639, iv (0 : Int32)] [(.int (0 : Int32)), (.ref b51_645)])) rfl (hb hby d4_14) _ ?_
    show Steps p.tables e below (T857.setTop (mkF m 16 #[rv b639, iv (0 : Int32)] [(.int (65536 : Int32)), (.int (0 : Int32)), (.ref b51_645)])) _
    refine XS.idiv X857.here hx rfl (hb hby d4_16) rfl (by decide) ?_
    show  Steps p.tables e below (T857.setTop (mkF m 17 #[rv b639, iv (0 : Int32)] [(.int ((0 : Int32) / (65536 : Int32))), (.ref b51_645)])) _
    rw [(by decide : (((0 : Int32) / (65536 : Int32)) : Int32) = (0 : Int32))]
    exact kt
  obtain ⟨c859, Ar859, q859, S859, M859, H859, G859⟩ := id Fi0
  have i859 : ¬ ((0 : Int32) < 0 ∨ c859.slots.size ≤ ((0 : Int32)).toNatClampNeg) := inb_of S859 ⟨by decide, by decide⟩
  have t859 : c859.slots[((0 : Int32)).toNatClampNeg]? = some (.ref b221_648) := Has.at H859 i859 rfl
  have pre862 : ∀ t, Steps p.tables e below (T857.setTop (mkF m 22 #[rv b639, iv (0 : Int32)] [(.int (0 : Int32)), (.ref b221_648)])) t → Steps p.tables e below (s₁.setTop (entryFrame m #[(.ref b639), (.int (0 : Int32))] 2)) t := fun t kt => by
    refine pre860 _ ?_
    show Steps p.tables e below (T857.setTop (mkF m 17 #[rv b639, iv (0 : Int32)] [(.int (0 : Int32)), (.ref b51_645)])) _
    refine X857.aaload hx (j := (0 : Int32)) (v := (.ref b221_648)) (by rw [e857]; exact Ar859.1) (State.isArrayOf_alike hZ.alike Ar859.2.1) rfl Ar859.2.2 i859 t859 (g := (mkF m 17 #[rv b639, iv (0 : Int32)] [(.int (0 : Int32)), (.ref b51_645)])) rfl rfl (hb hby d4_17) _ ?_
    show Steps p.tables e below (T857.setTop (mkF m 18 #[rv b639, iv (0 : Int32)] [(.ref b221_648)])) _
    refine XS.iloadN X857.here hx rfl (hb hby d4_18) rfl ?_
    show Steps p.tables e below (T857.setTop (mkF m 19 #[rv b639, iv (0 : Int32)] [(.int (0 : Int32)), (.ref b221_648)])) _
    refine X857.ldcInt hx hown (mvT hZ (W 20 rfl)) (g := (mkF m 19 #[rv b639, iv (0 : Int32)] [(.int (0 : Int32)), (.ref b221_648)])) rfl (hb hby d4_19) _ ?_
    show Steps p.tables e below (T857.setTop (mkF m 21 #[rv b639, iv (0 : Int32)] [(.int (65536 : Int32)), (.int (0 : Int32)), (.ref b221_648)])) _
    refine XS.irem X857.here hx rfl (hb hby d4_21) rfl (by decide) ?_
    show  Steps p.tables e below (T857.setTop (mkF m 22 #[rv b639, iv (0 : Int32)] [(.int ((0 : Int32) - ((0 : Int32) / (65536 : Int32)) * (65536 : Int32))), (.ref b221_648)])) _
    rw [(by decide : (((0 : Int32) - ((0 : Int32) / (65536 : Int32)) * (65536 : Int32)) : Int32) = (0 : Int32))]
    exact kt
  obtain ⟨c861, Ar861, q861, S861, M861, H861, G861⟩ := id Fi2
  have i861 : ¬ ((0 : Int32) < 0 ∨ c861.slots.size ≤ ((0 : Int32)).toNatClampNeg) := inb_of S861 ⟨by decide, by decide⟩
  have t861 : c861.slots[((0 : Int32)).toNatClampNeg]? = some (.int p0) := Has.at H861 i861 rfl
  have pre863 : ∀ t, Steps p.tables e below (T857.setTop (mkF m 23 #[rv b639, iv (0 : Int32)] [(.int p0)])) t → Steps p.tables e below (s₁.setTop (entryFrame m #[(.ref b639), (.int (0 : Int32))] 2)) t := fun t kt => by
    refine pre862 _ ?_
    show Steps p.tables e below (T857.setTop (mkF m 22 #[rv b639, iv (0 : Int32)] [(.int (0 : Int32)), (.ref b221_648)])) _
    refine X857.iaload hx (j := (0 : Int32)) (v := (.int p0)) (by rw [e857]; exact Ar861.1) (State.isArrayOf_alike hZ.alike Ar861.2.1) Ar861.2.2 i861 t861 (g := (mkF m 22 #[rv b639, iv (0 : Int32)] [(.int (0 : Int32)), (.ref b221_648)])) rfl rfl (hb hby d4_22) _ ?_
    exact kt
  obtain ⟨fs, hr, hrun, hended, hW, hsame⟩ := X857.leave (v := some (.int p0)) (fun h => by rw [Bd.returns] at h; cases h)
  refine ⟨_, _, pre863 _ (retI X857 hx Bd.returns (hb hby d4_23) hr), hrun, hended, _, _, rfl, ?_, ⟨_, rfl⟩, hW, hsame.mono (by decide) (by decide)⟩
  show Q_get4_3 Z b639 k51_645 b51_645 b221_648 p0 p1 p2 k221_648 h0 n0 _ T857.heap _
  rw [e857]
  exact ⟨rfl, N854, rfl⟩
def Q_checkIndex6_4 (Z : State)  (h0 : Heap) (n0 : Nat) (v : Option Value) (h : Heap) (L : List Loc) : Prop := v = some (.int (2 : Int32)) ∧ Fr n0 L ∧ h = h0
set_option maxRecDepth 65536 in
set_option maxHeartbeats 40000000 in
theorem rm_checkIndex6_4 (l : Launch) (Z : State) (a0 : Array Value) (hw : ∀ d ∈ tables_1, d.before a0 Z = true) (ws : List Jvm.Cond)  (h0 : Heap) (n0 : Nat) (O0 : Old Z n0 h0) :
    MetFree l (⟨"jdk/internal/util/Preconditions", "checkIndex", "(IILjava/util/function/BiFunction;)I"⟩ : MethodName) (head1 (Jvm.Cond.code (⟨"jdk/internal/util/Preconditions", "checkIndex", "(IILjava/util/function/BiFunction;)I"⟩ : MethodName) jdk_41_method_11_code 3 (some .int) :: ws) ({ frames := 0, cells := 0, slots := 0, locals := 0 } : Room)) (fun a U => a = #[(.int (2 : Int32)), (.int (3 : Int32)), .null] ∧ Z.Warmed39 U.vm ∧ U.heap = h0) (fun _ _ _ _ _ => True) (fun _ U o U' => ∃ v L, o = .returned v ∧ Q_checkIndex6_4 Z  h0 n0 v U'.heap L ∧ FrameEnd U o U' L ({ frames := 0, cells := 0, slots := 0, locals := 0 } : Room).cells ({ frames := 0, cells := 0, slots := 0, locals := 0 } : Room).slots) := by
  refine MetFree.of_bodySF (plainFor_of_name pn_7) hisR ?_
  intro p e s m args below meth c s₁ Bd hml0 hP hK
  have W := fun {d : Jvm.Cond} (i : Nat) (q : tables_1[i]? = some d) => hw d (List.mem_of_getElem? q)
  obtain ⟨rfl, hZ, hh⟩ := hP
  have hx := Bd.exec
  have hby := Bd.bytes
  have hml : c.maxLocals = 3 := hml0
  have hown : s.vm.findClass "jdk/internal/util/Preconditions" = some m.cls := findClass_of_methodNamed Bd.named
  have hnm := (name_of_methodNamed Bd.named Bd.method).1
  have X0 : Stand p l e ({ frames := 0, cells := 0, slots := 0, locals := 0 } : Room) s m #[(.int (2 : Int32)), (.int (3 : Int32)), .null] below meth c s₁ [] 0 0 := Stand.of_body Bd
  have e0 : s₁.heap = h0 := by rw [← hh, Bd.state]; rfl
  have N0 := Fr.nil n0
  have pre0 : ∀ t, Steps p.tables e below (s₁.setTop (mkF m 0 #[iv (2 : Int32), iv (3 : Int32), .val .null] [])) t → Steps p.tables e below (s₁.setTop (entryFrame m #[(.int (2 : Int32)), (.int (3 : Int32)), .null] 3)) t := fun t k => castTop (ef_8 m (2 : Int32) (3 : Int32)) k
  have K0 : Keep h0 h0 [] := Keep.refl h0 []
  have pre875 : ∀ t, Steps p.tables e below (s₁.setTop (mkF m 17 #[iv (2 : Int32), iv (3 : Int32), .val .null] [(.int (2 : Int32))])) t → Steps p.tables e below (s₁.setTop (entryFrame m #[(.int (2 : Int32)), (.int (3 : Int32)), .null] 3)) t := fun t kt => by
    refine pre0 _ ?_
    show Steps p.tables e below (s₁.setTop (mkF m 0 #[iv (2 : Int32), iv (3 : Int32), .val .null] [])) _
    refine XS.iloadN X0.here hx rfl (hb hby d6_0) rfl ?_
    show Steps p.tables e below (s₁.setTop (mkF m 1 #[iv (2 : Int32), iv (3 : Int32), .val .null] [(.int (2 : Int32))])) _
    refine XS.ifNo X0.here hx rfl (hb hby d6_1) rfl (XT.i0_lt_f (by decide)) ?_
    show Steps p.tables e below (s₁.setTop (mkF m 4 #[iv (2 : Int32), iv (3 : Int32), .val .null] [])) _
    refine XS.iloadN X0.here hx rfl (hb hby d6_4) rfl ?_
    show Steps p.tables e below (s₁.setTop (mkF m 5 #[iv (2 : Int32), iv (3 : Int32), .val .null] [(.int (2 : Int32))])) _
    refine XS.iloadN X0.here hx rfl (hb hby d6_5) rfl ?_
    show Steps p.tables e below (s₁.setTop (mkF m 6 #[iv (2 : Int32), iv (3 : Int32), .val .null] [(.int (3 : Int32)), (.int (2 : Int32))])) _
    refine XS.icmpYes X0.here hx rfl (pc0 := 6) (pc' := 16) rfl (hb hby d6_6) rfl (XT.ii_lt_t (by decide)) (by decide) (by decide) ?_
    show Steps p.tables e below (s₁.setTop (mkF m 16 #[iv (2 : Int32), iv (3 : Int32), .val .null] [])) _
    refine XS.iloadN X0.here hx rfl (hb hby d6_16) rfl ?_
    exact kt
  obtain ⟨fs, hr, hrun, hended, hW, hsame⟩ := X0.leave (v := some (.int (2 : Int32))) (fun h => by rw [Bd.returns] at h; cases h)
  refine ⟨_, _, pre875 _ (retI X0 hx Bd.returns (hb hby d6_17) hr), hrun, hended, _, _, rfl, ?_, ⟨_, rfl⟩, hW, hsame.mono (by decide) (by decide)⟩
  show Q_checkIndex6_4 Z  h0 n0 _ s₁.heap _
  rw [e0]
  exact ⟨rfl, N0, rfl⟩
def Q_checkIndex5_4 (Z : State)  (h0 : Heap) (n0 : Nat) (v : Option Value) (h : Heap) (L : List Loc) : Prop := v = some (.int (2 : Int32)) ∧ Fr n0 L ∧ h = h0
set_option maxRecDepth 65536 in
set_option maxHeartbeats 40000000 in
theorem rm_checkIndex5_4 (l : Launch) (Z : State) (a0 : Array Value) (hw : ∀ d ∈ tables_1, d.before a0 Z = true) (ws : List Jvm.Cond)  (h0 : Heap) (n0 : Nat) (O0 : Old Z n0 h0) :
    MetFree l (⟨"java/util/Objects", "checkIndex", "(II)I"⟩ : MethodName) (head1 (Jvm.Cond.code (⟨"java/util/Objects", "checkIndex", "(II)I"⟩ : MethodName) jdk_31_method_17_code 2 (some .int) :: ws) ({ frames := 1, cells := 0, slots := 0, locals := 14 } : Room)) (fun a U => a = #[(.int (2 : Int32)), (.int (3 : Int32))] ∧ Z.Warmed39 U.vm ∧ U.heap = h0) (fun _ _ _ _ _ => True) (fun _ U o U' => ∃ v L, o = .returned v ∧ Q_checkIndex5_4 Z  h0 n0 v U'.heap L ∧ FrameEnd U o U' L ({ frames := 1, cells := 0, slots := 0, locals := 14 } : Room).cells ({ frames := 1, cells := 0, slots := 0, locals := 14 } : Room).slots) := by
  refine MetFree.of_bodySF (plainFor_of_name pn_10) hisR ?_
  intro p e s m args below meth c s₁ Bd hml0 hP hK
  have W := fun {d : Jvm.Cond} (i : Nat) (q : tables_1[i]? = some d) => hw d (List.mem_of_getElem? q)
  obtain ⟨rfl, hZ, hh⟩ := hP
  have hx := Bd.exec
  have hby := Bd.bytes
  have hml : c.maxLocals = 2 := hml0
  have hown : s.vm.findClass "java/util/Objects" = some m.cls := findClass_of_methodNamed Bd.named
  have hnm := (name_of_methodNamed Bd.named Bd.method).1
  have X0 : Stand p l e ({ frames := 1, cells := 0, slots := 0, locals := 14 } : Room) s m #[(.int (2 : Int32)), (.int (3 : Int32))] below meth c s₁ [] 0 0 := Stand.of_body Bd
  have e0 : s₁.heap = h0 := by rw [← hh, Bd.state]; rfl
  have N0 := Fr.nil n0
  have pre0 : ∀ t, Steps p.tables e below (s₁.setTop (mkF m 0 #[iv (2 : Int32), iv (3 : Int32)] [])) t → Steps p.tables e below (s₁.setTop (entryFrame m #[(.int (2 : Int32)), (.int (3 : Int32))] 2)) t := fun t k => castTop (ef_11 m (2 : Int32) (3 : Int32)) k
  have K0 : Keep h0 h0 [] := Keep.refl h0 []
  have pre880 : ∀ t, Steps p.tables e below (s₁.setTop (mkF m 3 #[iv (2 : Int32), iv (3 : Int32)] [.null, (.int (3 : Int32)), (.int (2 : Int32))])) t → Steps p.tables e below (s₁.setTop (entryFrame m #[(.int (2 : Int32)), (.int (3 : Int32))] 2)) t := fun t kt => by
    refine pre0 _ ?_
    show Steps p.tables e below (s₁.setTop (mkF m 0 #[iv (2 : Int32), iv (3 : Int32)] [])) _
    refine XS.iloadN X0.here hx rfl (hb hby d5_0) rfl ?_
    show Steps p.tables e below (s₁.setTop (mkF m 1 #[iv (2 : Int32), iv (3 : Int32)] [(.int (2 : Int32))])) _
    refine XS.iloadN X0.here hx rfl (hb hby d5_1) rfl ?_
    show Steps p.tables e below (s₁.setTop (mkF m 2 #[iv (2 : Int32), iv (3 : Int32)] [(.int (3 : Int32)), (.int (2 : Int32))])) _
    refine XS.aconstNull X0.here hx rfl (hb hby d5_2) ?_
    exact kt
  obtain ⟨_, _, ⟨T881, L881, k881, n881⟩, -, X881, ⟨Lc881, hQ881, l881, y881, z881⟩, st881⟩ := Jvm.LawKit.callS X0 hx (y := (⟨"jdk/internal/util/Preconditions", "checkIndex", "(IILjava/util/function/BiFunction;)I"⟩ : MethodName)) hown (mvT hZ (W 33 rfl)) (mvT hZ (W 34 rfl)) (mvT hZ (W 35 rfl)) (mvT hZ (W 36 rfl)) (by decide) (backOf (W := 0) (rm_checkIndex6_4 l Z a0 hw [] h0 n0 O0) hZ (W 36 rfl) (W 35 rfl) (by decide) (by decide)) (g := (mkF m 3 #[iv (2 : Int32), iv (3 : Int32)] [.null, (.int (3 : Int32)), (.int (2 : Int32))])) rfl (by rw [hml]; rfl) (argsL := [(.int (2 : Int32)), (.int (3 : Int32)), .null]) (rest := []) (lenOf pd_9 rfl) rfl (by show 2 * 0 + _ ≤ _; exact Nat.le_of_eq rfl) (hb hby d5_3) (fun _ _ => ⟨rfl, e0, (by decide : 0 + 0 ≤ _), (by decide : 0 + 0 ≤ _)⟩)
  dsimp only [Pt.U, Pt.locs, Pt.cells, Pt.slots] at X881 l881 y881 z881 st881 hQ881
  replace l881 := l881.symm
  replace y881 : 0 = k881 := y881.symm
  replace z881 : 0 = n881 := z881.symm
  subst l881 y881 z881
  obtain ⟨rfl, M881, e881⟩ := hQ881
  have N881 := Fr.app N0 M881
  have pre882 : ∀ t, Steps p.tables e below (T881.setTop (mkF m 6 #[iv (2 : Int32), iv (3 : Int32)] [(.int (2 : Int32))])) t → Steps p.tables e below (s₁.setTop (entryFrame m #[(.int (2 : Int32)), (.int (3 : Int32))] 2)) t := fun t kt => pre880 _ (st881 _ kt)
  obtain ⟨fs, hr, hrun, hended, hW, hsame⟩ := X881.leave (v := some (.int (2 : Int32))) (fun h => by rw [Bd.returns] at h; cases h)
  refine ⟨_, _, pre882 _ (retI X881 hx Bd.returns (hb hby d5_6) hr), hrun, hended, _, _, rfl, ?_, ⟨_, rfl⟩, hW, hsame.mono (by decide) (by decide)⟩
  show Q_checkIndex5_4 Z  h0 n0 _ T881.heap _
  rw [e881]
  exact ⟨rfl, N881, rfl⟩
def Q_get4_4 (Z : State) (b639 : Addr) (k51_645 : ClassId) (b51_645 : Addr) (b221_648 : Addr) (p0 : Int32) (p1 : Int32) (p2 : Int32) (k221_648 : ClassId) (h0 : Heap) (n0 : Nat) (v : Option Value) (h : Heap) (L : List Loc) : Prop := v = some (.int p2) ∧ Fr n0 L ∧ h = h0
set_option maxRecDepth 65536 in
set_option maxHeartbeats 40000000 in
theorem rm_get4_4 (l : Launch) (Z : State) (a0 : Array Value) (hw : ∀ d ∈ tables_1, d.before a0 Z = true) (ws : List Jvm.Cond) (b639 : Addr) (k51_645 : ClassId) (b51_645 : Addr) (b221_648 : Addr) (p0 : Int32) (p1 : Int32) (p2 : Int32) (k221_648 : ClassId) (h0 : Heap) (n0 : Nat) (O0 : Old Z n0 h0) (Fi0 : Arv Z h0 b51_645 k51_645 (.array .int) (1 : Int32) [(.ref b221_648)] .null) (Fi1 : Fld Z h0 b639 "org/reachwatch/IntBlocks" "blocks" "[[I" (.ref b51_645)) (Fi2 : Arv Z h0 b221_648 k221_648 .int (16 : Int32) [(.int p0), (.int p1), (.int p2), (.int (0 : Int32)), (.int (0 : Int32)), (.int (0 : Int32)), (.int (0 : Int32)), (.int (0 : Int32)), (.int (0 : Int32)), (.int (0 : Int32)), (.int (0 : Int32)), (.int (0 : Int32)), (.int (0 : Int32)), (.int (0 : Int32)), (.int (0 : Int32)), (.int (0 : Int32))] (.int (0 : Int32))) (Fi3 : Fld Z h0 b639 "org/reachwatch/IntBlocks" "size" "I" (.int (3 : Int32))) :
    MetFree l (⟨"org/reachwatch/IntBlocks", "get", "(I)I"⟩ : MethodName) (head1 (Jvm.Cond.code (⟨"org/reachwatch/IntBlocks", "get", "(I)I"⟩ : MethodName) prog_56_method_3_code 2 (some .int) :: ws) ({ frames := 2, cells := 0, slots := 0, locals := 27 } : Room)) (fun a U => a = #[(.ref b639), (.int (2 : Int32))] ∧ Z.Warmed39 U.vm ∧ U.heap = h0) (fun _ _ _ _ _ => True) (fun _ U o U' => ∃ v L, o = .returned v ∧ Q_get4_4 Z b639 k51_645 b51_645 b221_648 p0 p1 p2 k221_648 h0 n0 v U'.heap L ∧ FrameEnd U o U' L ({ frames := 2, cells := 0, slots := 0, locals := 27 } : Room).cells ({ frames := 2, cells := 0, slots := 0, locals := 27 } : Room).slots) := by
  refine MetFree.of_bodySF (plainFor_of_name pn_2) hisR ?_
  intro p e s m args below meth c s₁ Bd hml0 hP hK
  have W := fun {d : Jvm.Cond} (i : Nat) (q : tables_1[i]? = some d) => hw d (List.mem_of_getElem? q)
  obtain ⟨rfl, hZ, hh⟩ := hP
  have hx := Bd.exec
  have hby := Bd.bytes
  have hml : c.maxLocals = 2 := hml0
  have hown : s.vm.findClass "org/reachwatch/IntBlocks" = some m.cls := findClass_of_methodNamed Bd.named
  have hnm := (name_of_methodNamed Bd.named Bd.method).1
  have X0 : Stand p l e ({ frames := 2, cells := 0, slots := 0, locals := 27 } : Room) s m #[(.ref b639), (.int (2 : Int32))] below meth c s₁ [] 0 0 := Stand.of_body Bd
  have e0 : s₁.heap = h0 := by rw [← hh, Bd.state]; rfl
  have N0 := Fr.nil n0
  have pre0 : ∀ t, Steps p.tables e below (s₁.setTop (mkF m 0 #[rv b639, iv (2 : Int32)] [])) t → Steps p.tables e below (s₁.setTop (entryFrame m #[(.ref b639), (.int (2 : Int32))] 2)) t := fun t k => castTop (ef_13 m b639 (2 : Int32)) k
  have K0 : Keep h0 h0 [] := Keep.refl h0 []
  have pre905 : ∀ t, Steps p.tables e below (s₁.setTop (mkF m 2 #[rv b639, iv (2 : Int32)] [(.ref b639), (.int (2 : Int32))])) t → Steps p.tables e below (s₁.setTop (entryFrame m #[(.ref b639), (.int (2 : Int32))] 2)) t := fun t kt => by
    refine pre0 _ ?_
    show Steps p.tables e below (s₁.setTop (mkF m 0 #[rv b639, iv (2 : Int32)] [])) _
    refine XS.iloadN X0.here hx rfl (hb hby d4_0) rfl ?_
    show Steps p.tables e below (s₁.setTop (mkF m 1 #[rv b639, iv (2 : Int32)] [(.int (2 : Int32))])) _
    refine XS.aloadN X0.here hx rfl (hb hby d4_1) rfl rfl ?_
    exact kt
  obtain ⟨T906, X906, e906, st906⟩ := getF X0 hx hZ hown (host := "") (Or.inl (W 18 rfl)) Via.refl e0 Fi3 (g := (mkF m 2 #[rv b639, iv (2 : Int32)] [(.ref b639), (.int (2 : Int32))])) rfl rfl (hb hby d4_2)
  have pre907 : ∀ t, Steps p.tables e below (T906.setTop (mkF m 5 #[rv b639, iv (2 : Int32)] [(.int (3 : Int32)), (.int (2 : Int32))])) t → Steps p.tables e below (s₁.setTop (entryFrame m #[(.ref b639), (.int (2 : Int32))] 2)) t := fun t kt => pre905 _ (st906 _ kt)
  obtain ⟨_, _, ⟨T908, L908, k908, n908⟩, -, X908, ⟨Lc908, hQ908, l908, y908, z908⟩, st908⟩ := Jvm.LawKit.callS X906 hx (y := (⟨"java/util/Objects", "checkIndex", "(II)I"⟩ : MethodName)) hown (mvT hZ (W 29 rfl)) (mvT hZ (W 30 rfl)) (mvT hZ (W 31 rfl)) (mvT hZ (W 32 rfl)) (by decide) (backOf (W := 0) (rm_checkIndex5_4 l Z a0 hw [] h0 n0 O0) hZ (W 32 rfl) (W 31 rfl) (by decide) (by decide)) (g := (mkF m 5 #[rv b639, iv (2 : Int32)] [(.int (3 : Int32)), (.int (2 : Int32))])) rfl (by rw [hml]; rfl) (argsL := [(.int (2 : Int32)), (.int (3 : Int32))]) (rest := []) (lenOf pd_12 rfl) rfl (by show 2 * 0 + _ ≤ _; exact Nat.le_of_eq rfl) (hb hby d4_5) (fun _ _ => ⟨rfl, e906, (by decide : 0 + 0 ≤ _), (by decide : 0 + 0 ≤ _)⟩)
  dsimp only [Pt.U, Pt.locs, Pt.cells, Pt.slots] at X908 l908 y908 z908 st908 hQ908
  replace l908 := l908.symm
  replace y908 : 0 = k908 := y908.symm
  replace z908 : 0 = n908 := z908.symm
  subst l908 y908 z908
  obtain ⟨rfl, M908, e908⟩ := hQ908
  have N908 := Fr.app N0 M908
  have pre909 : ∀ t, Steps p.tables e below (T908.setTop (mkF m 8 #[rv b639, iv (2 : Int32)] [(.int (2 : Int32))])) t → Steps p.tables e below (s₁.setTop (entryFrame m #[(.ref b639), (.int (2 : Int32))] 2)) t := fun t kt => pre907 _ (st908 _ kt)
  have pre910 : ∀ t, Steps p.tables e below (T908.setTop (mkF m 10 #[rv b639, iv (2 : Int32)] [(.ref b639)])) t → Steps p.tables e below (s₁.setTop (entryFrame m #[(.ref b639), (.int (2 : Int32))] 2)) t := fun t kt => by
    refine pre909 _ ?_
    show Steps p.tables e below (T908.setTop (mkF m 8 #[rv b639, iv (2 : Int32)] [(.int (2 : Int32))])) _
    refine XS.pop X908.here hx rfl (hb hby d4_8) rfl rfl ?_
    show Steps p.tables e below (T908.setTop (mkF m 9 #[rv b639, iv (2 : Int32)] [])) _
    refine XS.aloadN X908.here hx rfl (hb hby d4_9) rfl rfl ?_
    exact kt
  obtain ⟨T911, X911, e911, st911⟩ := getF X908 hx hZ hown (host := "") (Or.inl (W 11 rfl)) Via.refl e908 Fi1 (g := (mkF m 10 #[rv b639, iv (2 : Int32)] [(.ref b639)])) rfl rfl (hb hby d4_10)
  have pre912 : ∀ t, Steps p.tables e below (T911.setTop (mkF m 13 #[rv b639, iv (2 : Int32)] [(.ref b51_645)])) t → Steps p.tables e below (s₁.setTop (entryFrame m #[(.ref b639), (.int (2 : Int32))] 2)) t := fun t kt => pre910 _ (st911 _ kt)
  have pre914 : ∀ t, Steps p.tables e below (T911.setTop (mkF m 17 #[rv b639, iv (2 : Int32)] [(.int (0 : Int32)), (.ref b51_645)])) t → Steps p.tables e below (s₁.setTop (entryFrame m #[(.ref b639), (.int (2 : Int32))] 2)) t := fun t kt => by
    refine pre912 _ ?_
    show Steps p.tables e below (T911.setTop (mkF m 13 #[rv b639, iv (2 : Int32)] [(.ref b51_645)])) _
    refine XS.iloadN X911.here hx rfl (hb hby d4_13) rfl ?_
    show Steps p.tables e below (T911.setTop (mkF m 14 #[rv b639, iv (2 : Int32)] [(.int (2 : Int32)), (.ref b51_645)])) _
    refine X911.ldcInt hx hown (mvT hZ (W 20 rfl)) (g := (mkF m 14 #[rv b639, iv (2 : Int32)] [(.int (2 : Int32)), (.ref b51_645)])) rfl (hb hby d4_14) _ ?_
    show Steps p.tables e below (T911.setTop (mkF m 16 #[rv b639, iv (2 : Int32)] [(.int (65536 : Int32)), (.int (2 : Int32)), (.ref b51_645)])) _
    refine XS.idiv X911.here hx rfl (hb hby d4_16) rfl (by decide) ?_
    show  Steps p.tables e below (T911.setTop (mkF m 17 #[rv b639, iv (2 : Int32)] [(.int ((2 : Int32) / (65536 : Int32))), (.ref b51_645)])) _
    rw [(by decide : (((2 : Int32) / (65536 : Int32)) : Int32) = (0 : Int32))]
    exact kt
  obtain ⟨c913, Ar913, q913, S913, M913, H913, G913⟩ := id Fi0
  have i913 : ¬ ((0 : Int32) < 0 ∨ c913.slots.size ≤ ((0 : Int32)).toNatClampNeg) := inb_of S913 ⟨by decide, by decide⟩
  have t913 : c913.slots[((0 : Int32)).toNatClampNeg]? = some (.ref b221_648) := Has.at H913 i913 rfl
  have pre916 : ∀ t, Steps p.tables e below (T911.setTop (mkF m 22 #[rv b639, iv (2 : Int32)] [(.int (2 : Int32)), (.ref b221_648)])) t → Steps p.tables e below (s₁.setTop (entryFrame m #[(.ref b639), (.int (2 : Int32))] 2)) t := fun t kt => by
    refine pre914 _ ?_
    show Steps p.tables e below (T911.setTop (mkF m 17 #[rv b639, iv (2 : Int32)] [(.int (0 : Int32)), (.ref b51_645)])) _
    refine X911.aaload hx (j := (0 : Int32)) (v := (.ref b221_648)) (by rw [e911]; exact Ar913.1) (State.isArrayOf_alike hZ.alike Ar913.2.1) rfl Ar913.2.2 i913 t913 (g := (mkF m 17 #[rv b639, iv (2 : Int32)] [(.int (0 : Int32)), (.ref b51_645)])) rfl rfl (hb hby d4_17) _ ?_
    show Steps p.tables e below (T911.setTop (mkF m 18 #[rv b639, iv (2 : Int32)] [(.ref b221_648)])) _
    refine XS.iloadN X911.here hx rfl (hb hby d4_18) rfl ?_
    show Steps p.tables e below (T911.setTop (mkF m 19 #[rv b639, iv (2 : Int32)] [(.int (2 : Int32)), (.ref b221_648)])) _
    refine X911.ldcInt hx hown (mvT hZ (W 20 rfl)) (g := (mkF m 19 #[rv b639, iv (2 : Int32)] [(.int (2 : Int32)), (.ref b221_648)])) rfl (hb hby d4_19) _ ?_
    show Steps p.tables e below (T911.setTop (mkF m 21 #[rv b639, iv (2 : Int32)] [(.int (65536 : Int32)), (.int (2 : Int32)), (.ref b221_648)])) _
    refine XS.irem X911.here hx rfl (hb hby d4_21) rfl (by decide) ?_
    show  Steps p.tables e below (T911.setTop (mkF m 22 #[rv b639, iv (2 : Int32)] [(.int ((2 : Int32) - ((2 : Int32) / (65536 : Int32)) * (65536 : Int32))), (.ref b221_648)])) _
    rw [(by decide : (((2 : Int32) - ((2 : Int32) / (65536 : Int32)) * (65536 : Int32)) : Int32) = (2 : Int32))]
    exact kt
  obtain ⟨c915, Ar915, q915, S915, M915, H915, G915⟩ := id Fi2
  have i915 : ¬ ((2 : Int32) < 0 ∨ c915.slots.size ≤ ((2 : Int32)).toNatClampNeg) := inb_of S915 ⟨by decide, by decide⟩
  have t915 : c915.slots[((2 : Int32)).toNatClampNeg]? = some (.int p2) := Has.at H915 i915 rfl
  have pre917 : ∀ t, Steps p.tables e below (T911.setTop (mkF m 23 #[rv b639, iv (2 : Int32)] [(.int p2)])) t → Steps p.tables e below (s₁.setTop (entryFrame m #[(.ref b639), (.int (2 : Int32))] 2)) t := fun t kt => by
    refine pre916 _ ?_
    show Steps p.tables e below (T911.setTop (mkF m 22 #[rv b639, iv (2 : Int32)] [(.int (2 : Int32)), (.ref b221_648)])) _
    refine X911.iaload hx (j := (2 : Int32)) (v := (.int p2)) (by rw [e911]; exact Ar915.1) (State.isArrayOf_alike hZ.alike Ar915.2.1) Ar915.2.2 i915 t915 (g := (mkF m 22 #[rv b639, iv (2 : Int32)] [(.int (2 : Int32)), (.ref b221_648)])) rfl rfl (hb hby d4_22) _ ?_
    exact kt
  obtain ⟨fs, hr, hrun, hended, hW, hsame⟩ := X911.leave (v := some (.int p2)) (fun h => by rw [Bd.returns] at h; cases h)
  refine ⟨_, _, pre917 _ (retI X911 hx Bd.returns (hb hby d4_23) hr), hrun, hended, _, _, rfl, ?_, ⟨_, rfl⟩, hW, hsame.mono (by decide) (by decide)⟩
  show Q_get4_4 Z b639 k51_645 b51_645 b221_648 p0 p1 p2 k221_648 h0 n0 _ T911.heap _
  rw [e911]
  exact ⟨rfl, N908, rfl⟩
theorem d7_13 : decode method_3_code 13 = .ok (.iload_n 0, 1) := by decide +kernel
theorem d7_14 : decode method_3_code 14 = .ok (.iconst 2, 1) := by decide +kernel
theorem d7_15 : decode method_3_code 15 = .ok (.if_icmp .ne 5, 3) := by decide +kernel
theorem d7_18 : decode method_3_code 18 = .ok (.iload_n 3, 1) := by decide +kernel
theorem d7_19 : decode method_3_code 19 = .ok (.ireturn, 1) := by decide +kernel
def Q_ref7_2 (Z : State) (p0 : Int32) (p1 : Int32) (p2 : Int32) (p3 : Int32) (h0 : Heap) (n0 : Nat) (v : Option Value) (h : Heap) (L : List Loc) : Prop := v = some (.int p2) ∧ Fr n0 L ∧ h = h0
set_option maxRecDepth 65536 in
set_option maxHeartbeats 40000000 in
theorem rm_ref7_2 (l : Launch) (Z : State) (a0 : Array Value) (hw : ∀ d ∈ tables_1, d.before a0 Z = true) (ws : List Jvm.Cond) (p0 : Int32) (p1 : Int32) (p2 : Int32) (p3 : Int32) (h0 : Heap) (n0 : Nat) (O0 : Old Z n0 h0) :
    MetFree l (⟨"org/reachwatch/IntBlocksGetPinLaw", "ref", "(IIIII)I"⟩ : MethodName) (head1 (Jvm.Cond.code (⟨"org/reachwatch/IntBlocksGetPinLaw", "ref", "(IIIII)I"⟩ : MethodName) method_3_code 5 (some .int) :: ws) ({ frames := 0, cells := 0, slots := 0, locals := 0 } : Room)) (fun a U => a = #[(.int (2 : Int32)), (.int p0), (.int p1), (.int p2), (.int p3)] ∧ Z.Warmed39 U.vm ∧ U.heap = h0) (fun _ _ _ _ _ => True) (fun _ U o U' => ∃ v L, o = .returned v ∧ Q_ref7_2 Z p0 p1 p2 p3 h0 n0 v U'.heap L ∧ FrameEnd U o U' L ({ frames := 0, cells := 0, slots := 0, locals := 0 } : Room).cells ({ frames := 0, cells := 0, slots := 0, locals := 0 } : Room).slots) := by
  refine MetFree.of_bodySF (plainFor_of_name pn_0) hisR ?_
  intro p e s m args below meth c s₁ Bd hml0 hP hK
  have W := fun {d : Jvm.Cond} (i : Nat) (q : tables_1[i]? = some d) => hw d (List.mem_of_getElem? q)
  obtain ⟨rfl, hZ, hh⟩ := hP
  have hx := Bd.exec
  have hby := Bd.bytes
  have hml : c.maxLocals = 5 := hml0
  have hown : s.vm.findClass "org/reachwatch/IntBlocksGetPinLaw" = some m.cls := findClass_of_methodNamed Bd.named
  have hnm := (name_of_methodNamed Bd.named Bd.method).1
  have X0 : Stand p l e ({ frames := 0, cells := 0, slots := 0, locals := 0 } : Room) s m #[(.int (2 : Int32)), (.int p0), (.int p1), (.int p2), (.int p3)] below meth c s₁ [] 0 0 := Stand.of_body Bd
  have e0 : s₁.heap = h0 := by rw [← hh, Bd.state]; rfl
  have N0 := Fr.nil n0
  have pre0 : ∀ t, Steps p.tables e below (s₁.setTop (mkF m 0 #[iv (2 : Int32), iv p0, iv p1, iv p2, iv p3] [])) t → Steps p.tables e below (s₁.setTop (entryFrame m #[(.int (2 : Int32)), (.int p0), (.int p1), (.int p2), (.int p3)] 5)) t := fun t k => castTop (ef_15 m (2 : Int32) p0 p1 p2 p3) k
  have K0 : Keep h0 h0 [] := Keep.refl h0 []
  have pre926 : ∀ t, Steps p.tables e below (s₁.setTop (mkF m 19 #[iv (2 : Int32), iv p0, iv p1, iv p2, iv p3] [(.int p2)])) t → Steps p.tables e below (s₁.setTop (entryFrame m #[(.int (2 : Int32)), (.int p0), (.int p1), (.int p2), (.int p3)] 5)) t := fun t kt => by
    refine pre0 _ ?_
    show Steps p.tables e below (s₁.setTop (mkF m 0 #[iv (2 : Int32), iv p0, iv p1, iv p2, iv p3] [])) _
    refine XS.iloadN X0.here hx rfl (hb hby d7_0) rfl ?_
    show Steps p.tables e below (s₁.setTop (mkF m 1 #[iv (2 : Int32), iv p0, iv p1, iv p2, iv p3] [(.int (2 : Int32))])) _
    refine XS.ifYes X0.here hx rfl (pc0 := 1) (pc' := 6) rfl (hb hby d7_1) rfl (XT.i0_ne_t (by decide)) (by decide) (by decide) ?_
    show Steps p.tables e below (s₁.setTop (mkF m 6 #[iv (2 : Int32), iv p0, iv p1, iv p2, iv p3] [])) _
    refine XS.iloadN X0.here hx rfl (hb hby d7_6) rfl ?_
    show Steps p.tables e below (s₁.setTop (mkF m 7 #[iv (2 : Int32), iv p0, iv p1, iv p2, iv p3] [(.int (2 : Int32))])) _
    refine XS.iconst X0.here hx rfl (hb hby d7_7) ?_
    show Steps p.tables e below (s₁.setTop (mkF m 8 #[iv (2 : Int32), iv p0, iv p1, iv p2, iv p3] [(.int (1 : Int32)), (.int (2 : Int32))])) _
    refine XS.icmpYes X0.here hx rfl (pc0 := 8) (pc' := 13) rfl (hb hby d7_8) rfl (XT.ii_ne_t (by decide)) (by decide) (by decide) ?_
    show Steps p.tables e below (s₁.setTop (mkF m 13 #[iv (2 : Int32), iv p0, iv p1, iv p2, iv p3] [])) _
    refine XS.iloadN X0.here hx rfl (hb hby d7_13) rfl ?_
    show Steps p.tables e below (s₁.setTop (mkF m 14 #[iv (2 : Int32), iv p0, iv p1, iv p2, iv p3] [(.int (2 : Int32))])) _
    refine XS.iconst X0.here hx rfl (hb hby d7_14) ?_
    show Steps p.tables e below (s₁.setTop (mkF m 15 #[iv (2 : Int32), iv p0, iv p1, iv p2, iv p3] [(.int (2 : Int32)), (.int (2 : Int32))])) _
    refine XS.icmpNo X0.here hx rfl (hb hby d7_15) rfl (XT.ii_ne_f (by decide)) ?_
    show Steps p.tables e below (s₁.setTop (mkF m 18 #[iv (2 : Int32), iv p0, iv p1, iv p2, iv p3] [])) _
    refine XS.iloadN X0.here hx rfl (hb hby d7_18) rfl ?_
    exact kt
  obtain ⟨fs, hr, hrun, hended, hW, hsame⟩ := X0.leave (v := some (.int p2)) (fun h => by rw [Bd.returns] at h; cases h)
  refine ⟨_, _, pre926 _ (retI X0 hx Bd.returns (hb hby d7_19) hr), hrun, hended, _, _, rfl, ?_, ⟨_, rfl⟩, hW, hsame.mono (by decide) (by decide)⟩
  show Q_ref7_2 Z p0 p1 p2 p3 h0 n0 _ s₁.heap _
  rw [e0]
  exact ⟨rfl, N0, rfl⟩
def Q_checkIndex6_5 (Z : State)  (h0 : Heap) (n0 : Nat) (v : Option Value) (h : Heap) (L : List Loc) : Prop := v = some (.int (1 : Int32)) ∧ Fr n0 L ∧ h = h0
set_option maxRecDepth 65536 in
set_option maxHeartbeats 40000000 in
theorem rm_checkIndex6_5 (l : Launch) (Z : State) (a0 : Array Value) (hw : ∀ d ∈ tables_1, d.before a0 Z = true) (ws : List Jvm.Cond)  (h0 : Heap) (n0 : Nat) (O0 : Old Z n0 h0) :
    MetFree l (⟨"jdk/internal/util/Preconditions", "checkIndex", "(IILjava/util/function/BiFunction;)I"⟩ : MethodName) (head1 (Jvm.Cond.code (⟨"jdk/internal/util/Preconditions", "checkIndex", "(IILjava/util/function/BiFunction;)I"⟩ : MethodName) jdk_41_method_11_code 3 (some .int) :: ws) ({ frames := 0, cells := 0, slots := 0, locals := 0 } : Room)) (fun a U => a = #[(.int (1 : Int32)), (.int (3 : Int32)), .null] ∧ Z.Warmed39 U.vm ∧ U.heap = h0) (fun _ _ _ _ _ => True) (fun _ U o U' => ∃ v L, o = .returned v ∧ Q_checkIndex6_5 Z  h0 n0 v U'.heap L ∧ FrameEnd U o U' L ({ frames := 0, cells := 0, slots := 0, locals := 0 } : Room).cells ({ frames := 0, cells := 0, slots := 0, locals := 0 } : Room).slots) := by
  refine MetFree.of_bodySF (plainFor_of_name pn_7) hisR ?_
  intro p e s m args below meth c s₁ Bd hml0 hP hK
  have W := fun {d : Jvm.Cond} (i : Nat) (q : tables_1[i]? = some d) => hw d (List.mem_of_getElem? q)
  obtain ⟨rfl, hZ, hh⟩ := hP
  have hx := Bd.exec
  have hby := Bd.bytes
  have hml : c.maxLocals = 3 := hml0
  have hown : s.vm.findClass "jdk/internal/util/Preconditions" = some m.cls := findClass_of_methodNamed Bd.named
  have hnm := (name_of_methodNamed Bd.named Bd.method).1
  have X0 : Stand p l e ({ frames := 0, cells := 0, slots := 0, locals := 0 } : Room) s m #[(.int (1 : Int32)), (.int (3 : Int32)), .null] below meth c s₁ [] 0 0 := Stand.of_body Bd
  have e0 : s₁.heap = h0 := by rw [← hh, Bd.state]; rfl
  have N0 := Fr.nil n0
  have pre0 : ∀ t, Steps p.tables e below (s₁.setTop (mkF m 0 #[iv (1 : Int32), iv (3 : Int32), .val .null] [])) t → Steps p.tables e below (s₁.setTop (entryFrame m #[(.int (1 : Int32)), (.int (3 : Int32)), .null] 3)) t := fun t k => castTop (ef_8 m (1 : Int32) (3 : Int32)) k
  have K0 : Keep h0 h0 [] := Keep.refl h0 []
  have pre939 : ∀ t, Steps p.tables e below (s₁.setTop (mkF m 17 #[iv (1 : Int32), iv (3 : Int32), .val .null] [(.int (1 : Int32))])) t → Steps p.tables e below (s₁.setTop (entryFrame m #[(.int (1 : Int32)), (.int (3 : Int32)), .null] 3)) t := fun t kt => by
    refine pre0 _ ?_
    show Steps p.tables e below (s₁.setTop (mkF m 0 #[iv (1 : Int32), iv (3 : Int32), .val .null] [])) _
    refine XS.iloadN X0.here hx rfl (hb hby d6_0) rfl ?_
    show Steps p.tables e below (s₁.setTop (mkF m 1 #[iv (1 : Int32), iv (3 : Int32), .val .null] [(.int (1 : Int32))])) _
    refine XS.ifNo X0.here hx rfl (hb hby d6_1) rfl (XT.i0_lt_f (by decide)) ?_
    show Steps p.tables e below (s₁.setTop (mkF m 4 #[iv (1 : Int32), iv (3 : Int32), .val .null] [])) _
    refine XS.iloadN X0.here hx rfl (hb hby d6_4) rfl ?_
    show Steps p.tables e below (s₁.setTop (mkF m 5 #[iv (1 : Int32), iv (3 : Int32), .val .null] [(.int (1 : Int32))])) _
    refine XS.iloadN X0.here hx rfl (hb hby d6_5) rfl ?_
    show Steps p.tables e below (s₁.setTop (mkF m 6 #[iv (1 : Int32), iv (3 : Int32), .val .null] [(.int (3 : Int32)), (.int (1 : Int32))])) _
    refine XS.icmpYes X0.here hx rfl (pc0 := 6) (pc' := 16) rfl (hb hby d6_6) rfl (XT.ii_lt_t (by decide)) (by decide) (by decide) ?_
    show Steps p.tables e below (s₁.setTop (mkF m 16 #[iv (1 : Int32), iv (3 : Int32), .val .null] [])) _
    refine XS.iloadN X0.here hx rfl (hb hby d6_16) rfl ?_
    exact kt
  obtain ⟨fs, hr, hrun, hended, hW, hsame⟩ := X0.leave (v := some (.int (1 : Int32))) (fun h => by rw [Bd.returns] at h; cases h)
  refine ⟨_, _, pre939 _ (retI X0 hx Bd.returns (hb hby d6_17) hr), hrun, hended, _, _, rfl, ?_, ⟨_, rfl⟩, hW, hsame.mono (by decide) (by decide)⟩
  show Q_checkIndex6_5 Z  h0 n0 _ s₁.heap _
  rw [e0]
  exact ⟨rfl, N0, rfl⟩
def Q_checkIndex5_5 (Z : State)  (h0 : Heap) (n0 : Nat) (v : Option Value) (h : Heap) (L : List Loc) : Prop := v = some (.int (1 : Int32)) ∧ Fr n0 L ∧ h = h0
set_option maxRecDepth 65536 in
set_option maxHeartbeats 40000000 in
theorem rm_checkIndex5_5 (l : Launch) (Z : State) (a0 : Array Value) (hw : ∀ d ∈ tables_1, d.before a0 Z = true) (ws : List Jvm.Cond)  (h0 : Heap) (n0 : Nat) (O0 : Old Z n0 h0) :
    MetFree l (⟨"java/util/Objects", "checkIndex", "(II)I"⟩ : MethodName) (head1 (Jvm.Cond.code (⟨"java/util/Objects", "checkIndex", "(II)I"⟩ : MethodName) jdk_31_method_17_code 2 (some .int) :: ws) ({ frames := 1, cells := 0, slots := 0, locals := 14 } : Room)) (fun a U => a = #[(.int (1 : Int32)), (.int (3 : Int32))] ∧ Z.Warmed39 U.vm ∧ U.heap = h0) (fun _ _ _ _ _ => True) (fun _ U o U' => ∃ v L, o = .returned v ∧ Q_checkIndex5_5 Z  h0 n0 v U'.heap L ∧ FrameEnd U o U' L ({ frames := 1, cells := 0, slots := 0, locals := 14 } : Room).cells ({ frames := 1, cells := 0, slots := 0, locals := 14 } : Room).slots) := by
  refine MetFree.of_bodySF (plainFor_of_name pn_10) hisR ?_
  intro p e s m args below meth c s₁ Bd hml0 hP hK
  have W := fun {d : Jvm.Cond} (i : Nat) (q : tables_1[i]? = some d) => hw d (List.mem_of_getElem? q)
  obtain ⟨rfl, hZ, hh⟩ := hP
  have hx := Bd.exec
  have hby := Bd.bytes
  have hml : c.maxLocals = 2 := hml0
  have hown : s.vm.findClass "java/util/Objects" = some m.cls := findClass_of_methodNamed Bd.named
  have hnm := (name_of_methodNamed Bd.named Bd.method).1
  have X0 : Stand p l e ({ frames := 1, cells := 0, slots := 0, locals := 14 } : Room) s m #[(.int (1 : Int32)), (.int (3 : Int32))] below meth c s₁ [] 0 0 := Stand.of_body Bd
  have e0 : s₁.heap = h0 := by rw [← hh, Bd.state]; rfl
  have N0 := Fr.nil n0
  have pre0 : ∀ t, Steps p.tables e below (s₁.setTop (mkF m 0 #[iv (1 : Int32), iv (3 : Int32)] [])) t → Steps p.tables e below (s₁.setTop (entryFrame m #[(.int (1 : Int32)), (.int (3 : Int32))] 2)) t := fun t k => castTop (ef_11 m (1 : Int32) (3 : Int32)) k
  have K0 : Keep h0 h0 [] := Keep.refl h0 []
  have pre944 : ∀ t, Steps p.tables e below (s₁.setTop (mkF m 3 #[iv (1 : Int32), iv (3 : Int32)] [.null, (.int (3 : Int32)), (.int (1 : Int32))])) t → Steps p.tables e below (s₁.setTop (entryFrame m #[(.int (1 : Int32)), (.int (3 : Int32))] 2)) t := fun t kt => by
    refine pre0 _ ?_
    show Steps p.tables e below (s₁.setTop (mkF m 0 #[iv (1 : Int32), iv (3 : Int32)] [])) _
    refine XS.iloadN X0.here hx rfl (hb hby d5_0) rfl ?_
    show Steps p.tables e below (s₁.setTop (mkF m 1 #[iv (1 : Int32), iv (3 : Int32)] [(.int (1 : Int32))])) _
    refine XS.iloadN X0.here hx rfl (hb hby d5_1) rfl ?_
    show Steps p.tables e below (s₁.setTop (mkF m 2 #[iv (1 : Int32), iv (3 : Int32)] [(.int (3 : Int32)), (.int (1 : Int32))])) _
    refine XS.aconstNull X0.here hx rfl (hb hby d5_2) ?_
    exact kt
  obtain ⟨_, _, ⟨T945, L945, k945, n945⟩, -, X945, ⟨Lc945, hQ945, l945, y945, z945⟩, st945⟩ := Jvm.LawKit.callS X0 hx (y := (⟨"jdk/internal/util/Preconditions", "checkIndex", "(IILjava/util/function/BiFunction;)I"⟩ : MethodName)) hown (mvT hZ (W 33 rfl)) (mvT hZ (W 34 rfl)) (mvT hZ (W 35 rfl)) (mvT hZ (W 36 rfl)) (by decide) (backOf (W := 0) (rm_checkIndex6_5 l Z a0 hw [] h0 n0 O0) hZ (W 36 rfl) (W 35 rfl) (by decide) (by decide)) (g := (mkF m 3 #[iv (1 : Int32), iv (3 : Int32)] [.null, (.int (3 : Int32)), (.int (1 : Int32))])) rfl (by rw [hml]; rfl) (argsL := [(.int (1 : Int32)), (.int (3 : Int32)), .null]) (rest := []) (lenOf pd_9 rfl) rfl (by show 2 * 0 + _ ≤ _; exact Nat.le_of_eq rfl) (hb hby d5_3) (fun _ _ => ⟨rfl, e0, (by decide : 0 + 0 ≤ _), (by decide : 0 + 0 ≤ _)⟩)
  dsimp only [Pt.U, Pt.locs, Pt.cells, Pt.slots] at X945 l945 y945 z945 st945 hQ945
  replace l945 := l945.symm
  replace y945 : 0 = k945 := y945.symm
  replace z945 : 0 = n945 := z945.symm
  subst l945 y945 z945
  obtain ⟨rfl, M945, e945⟩ := hQ945
  have N945 := Fr.app N0 M945
  have pre946 : ∀ t, Steps p.tables e below (T945.setTop (mkF m 6 #[iv (1 : Int32), iv (3 : Int32)] [(.int (1 : Int32))])) t → Steps p.tables e below (s₁.setTop (entryFrame m #[(.int (1 : Int32)), (.int (3 : Int32))] 2)) t := fun t kt => pre944 _ (st945 _ kt)
  obtain ⟨fs, hr, hrun, hended, hW, hsame⟩ := X945.leave (v := some (.int (1 : Int32))) (fun h => by rw [Bd.returns] at h; cases h)
  refine ⟨_, _, pre946 _ (retI X945 hx Bd.returns (hb hby d5_6) hr), hrun, hended, _, _, rfl, ?_, ⟨_, rfl⟩, hW, hsame.mono (by decide) (by decide)⟩
  show Q_checkIndex5_5 Z  h0 n0 _ T945.heap _
  rw [e945]
  exact ⟨rfl, N945, rfl⟩
def Q_get4_5 (Z : State) (b639 : Addr) (k51_645 : ClassId) (b51_645 : Addr) (b221_648 : Addr) (p0 : Int32) (p1 : Int32) (p2 : Int32) (k221_648 : ClassId) (h0 : Heap) (n0 : Nat) (v : Option Value) (h : Heap) (L : List Loc) : Prop := v = some (.int p1) ∧ Fr n0 L ∧ h = h0
set_option maxRecDepth 65536 in
set_option maxHeartbeats 40000000 in
theorem rm_get4_5 (l : Launch) (Z : State) (a0 : Array Value) (hw : ∀ d ∈ tables_1, d.before a0 Z = true) (ws : List Jvm.Cond) (b639 : Addr) (k51_645 : ClassId) (b51_645 : Addr) (b221_648 : Addr) (p0 : Int32) (p1 : Int32) (p2 : Int32) (k221_648 : ClassId) (h0 : Heap) (n0 : Nat) (O0 : Old Z n0 h0) (Fi0 : Arv Z h0 b51_645 k51_645 (.array .int) (1 : Int32) [(.ref b221_648)] .null) (Fi1 : Fld Z h0 b639 "org/reachwatch/IntBlocks" "blocks" "[[I" (.ref b51_645)) (Fi2 : Arv Z h0 b221_648 k221_648 .int (16 : Int32) [(.int p0), (.int p1), (.int p2), (.int (0 : Int32)), (.int (0 : Int32)), (.int (0 : Int32)), (.int (0 : Int32)), (.int (0 : Int32)), (.int (0 : Int32)), (.int (0 : Int32)), (.int (0 : Int32)), (.int (0 : Int32)), (.int (0 : Int32)), (.int (0 : Int32)), (.int (0 : Int32)), (.int (0 : Int32))] (.int (0 : Int32))) (Fi3 : Fld Z h0 b639 "org/reachwatch/IntBlocks" "size" "I" (.int (3 : Int32))) :
    MetFree l (⟨"org/reachwatch/IntBlocks", "get", "(I)I"⟩ : MethodName) (head1 (Jvm.Cond.code (⟨"org/reachwatch/IntBlocks", "get", "(I)I"⟩ : MethodName) prog_56_method_3_code 2 (some .int) :: ws) ({ frames := 2, cells := 0, slots := 0, locals := 27 } : Room)) (fun a U => a = #[(.ref b639), (.int (1 : Int32))] ∧ Z.Warmed39 U.vm ∧ U.heap = h0) (fun _ _ _ _ _ => True) (fun _ U o U' => ∃ v L, o = .returned v ∧ Q_get4_5 Z b639 k51_645 b51_645 b221_648 p0 p1 p2 k221_648 h0 n0 v U'.heap L ∧ FrameEnd U o U' L ({ frames := 2, cells := 0, slots := 0, locals := 27 } : Room).cells ({ frames := 2, cells := 0, slots := 0, locals := 27 } : Room).slots) := by
  refine MetFree.of_bodySF (plainFor_of_name pn_2) hisR ?_
  intro p e s m args below meth c s₁ Bd hml0 hP hK
  have W := fun {d : Jvm.Cond} (i : Nat) (q : tables_1[i]? = some d) => hw d (List.mem_of_getElem? q)
  obtain ⟨rfl, hZ, hh⟩ := hP
  have hx := Bd.exec
  have hby := Bd.bytes
  have hml : c.maxLocals = 2 := hml0
  have hown : s.vm.findClass "org/reachwatch/IntBlocks" = some m.cls := findClass_of_methodNamed Bd.named
  have hnm := (name_of_methodNamed Bd.named Bd.method).1
  have X0 : Stand p l e ({ frames := 2, cells := 0, slots := 0, locals := 27 } : Room) s m #[(.ref b639), (.int (1 : Int32))] below meth c s₁ [] 0 0 := Stand.of_body Bd
  have e0 : s₁.heap = h0 := by rw [← hh, Bd.state]; rfl
  have N0 := Fr.nil n0
  have pre0 : ∀ t, Steps p.tables e below (s₁.setTop (mkF m 0 #[rv b639, iv (1 : Int32)] [])) t → Steps p.tables e below (s₁.setTop (entryFrame m #[(.ref b639), (.int (1 : Int32))] 2)) t := fun t k => castTop (ef_13 m b639 (1 : Int32)) k
  have K0 : Keep h0 h0 [] := Keep.refl h0 []
  have pre969 : ∀ t, Steps p.tables e below (s₁.setTop (mkF m 2 #[rv b639, iv (1 : Int32)] [(.ref b639), (.int (1 : Int32))])) t → Steps p.tables e below (s₁.setTop (entryFrame m #[(.ref b639), (.int (1 : Int32))] 2)) t := fun t kt => by
    refine pre0 _ ?_
    show Steps p.tables e below (s₁.setTop (mkF m 0 #[rv b639, iv (1 : Int32)] [])) _
    refine XS.iloadN X0.here hx rfl (hb hby d4_0) rfl ?_
    show Steps p.tables e below (s₁.setTop (mkF m 1 #[rv b639, iv (1 : Int32)] [(.int (1 : Int32))])) _
    refine XS.aloadN X0.here hx rfl (hb hby d4_1) rfl rfl ?_
    exact kt
  obtain ⟨T970, X970, e970, st970⟩ := getF X0 hx hZ hown (host := "") (Or.inl (W 18 rfl)) Via.refl e0 Fi3 (g := (mkF m 2 #[rv b639, iv (1 : Int32)] [(.ref b639), (.int (1 : Int32))])) rfl rfl (hb hby d4_2)
  have pre971 : ∀ t, Steps p.tables e below (T970.setTop (mkF m 5 #[rv b639, iv (1 : Int32)] [(.int (3 : Int32)), (.int (1 : Int32))])) t → Steps p.tables e below (s₁.setTop (entryFrame m #[(.ref b639), (.int (1 : Int32))] 2)) t := fun t kt => pre969 _ (st970 _ kt)
  obtain ⟨_, _, ⟨T972, L972, k972, n972⟩, -, X972, ⟨Lc972, hQ972, l972, y972, z972⟩, st972⟩ := Jvm.LawKit.callS X970 hx (y := (⟨"java/util/Objects", "checkIndex", "(II)I"⟩ : MethodName)) hown (mvT hZ (W 29 rfl)) (mvT hZ (W 30 rfl)) (mvT hZ (W 31 rfl)) (mvT hZ (W 32 rfl)) (by decide) (backOf (W := 0) (rm_checkIndex5_5 l Z a0 hw [] h0 n0 O0) hZ (W 32 rfl) (W 31 rfl) (by decide) (by decide)) (g := (mkF m 5 #[rv b639, iv (1 : Int32)] [(.int (3 : Int32)), (.int (1 : Int32))])) rfl (by rw [hml]; rfl) (argsL := [(.int (1 : Int32)), (.int (3 : Int32))]) (rest := []) (lenOf pd_12 rfl) rfl (by show 2 * 0 + _ ≤ _; exact Nat.le_of_eq rfl) (hb hby d4_5) (fun _ _ => ⟨rfl, e970, (by decide : 0 + 0 ≤ _), (by decide : 0 + 0 ≤ _)⟩)
  dsimp only [Pt.U, Pt.locs, Pt.cells, Pt.slots] at X972 l972 y972 z972 st972 hQ972
  replace l972 := l972.symm
  replace y972 : 0 = k972 := y972.symm
  replace z972 : 0 = n972 := z972.symm
  subst l972 y972 z972
  obtain ⟨rfl, M972, e972⟩ := hQ972
  have N972 := Fr.app N0 M972
  have pre973 : ∀ t, Steps p.tables e below (T972.setTop (mkF m 8 #[rv b639, iv (1 : Int32)] [(.int (1 : Int32))])) t → Steps p.tables e below (s₁.setTop (entryFrame m #[(.ref b639), (.int (1 : Int32))] 2)) t := fun t kt => pre971 _ (st972 _ kt)
  have pre974 : ∀ t, Steps p.tables e below (T972.setTop (mkF m 10 #[rv b639, iv (1 : Int32)] [(.ref b639)])) t → Steps p.tables e below (s₁.setTop (entryFrame m #[(.ref b639), (.int (1 : Int32))] 2)) t := fun t kt => by
    refine pre973 _ ?_
    show Steps p.tables e below (T972.setTop (mkF m 8 #[rv b639, iv (1 : Int32)] [(.int (1 : Int32))])) _
    refine XS.pop X972.here hx rfl (hb hby d4_8) rfl rfl ?_
    show Steps p.tables e below (T972.setTop (mkF m 9 #[rv b639, iv (1 : Int32)] [])) _
    refine XS.aloadN X972.here hx rfl (hb hby d4_9) rfl rfl ?_
    exact kt
  obtain ⟨T975, X975, e975, st975⟩ := getF X972 hx hZ hown (host := "") (Or.inl (W 11 rfl)) Via.refl e972 Fi1 (g := (mkF m 10 #[rv b639, iv (1 : Int32)] [(.ref b639)])) rfl rfl (hb hby d4_10)
  have pre976 : ∀ t, Steps p.tables e below (T975.setTop (mkF m 13 #[rv b639, iv (1 : Int32)] [(.ref b51_645)])) t → Steps p.tables e below (s₁.setTop (entryFrame m #[(.ref b639), (.int (1 : Int32))] 2)) t := fun t kt => pre974 _ (st975 _ kt)
  have pre978 : ∀ t, Steps p.tables e below (T975.setTop (mkF m 17 #[rv b639, iv (1 : Int32)] [(.int (0 : Int32)), (.ref b51_645)])) t → Steps p.tables e below (s₁.setTop (entryFrame m #[(.ref b639), (.int (1 : Int32))] 2)) t := fun t kt => by
    refine pre976 _ ?_
    show Steps p.tables e below (T975.setTop (mkF m 13 #[rv b639, iv (1 : Int32)] [(.ref b51_645)])) _
    refine XS.iloadN X975.here hx rfl (hb hby d4_13) rfl ?_
    show Steps p.tables e below (T975.setTop (mkF m 14 #[rv b639, iv (1 : Int32)] [(.int (1 : Int32)), (.ref b51_645)])) _
    refine X975.ldcInt hx hown (mvT hZ (W 20 rfl)) (g := (mkF m 14 #[rv b639, iv (1 : Int32)] [(.int (1 : Int32)), (.ref b51_645)])) rfl (hb hby d4_14) _ ?_
    show Steps p.tables e below (T975.setTop (mkF m 16 #[rv b639, iv (1 : Int32)] [(.int (65536 : Int32)), (.int (1 : Int32)), (.ref b51_645)])) _
    refine XS.idiv X975.here hx rfl (hb hby d4_16) rfl (by decide) ?_
    show  Steps p.tables e below (T975.setTop (mkF m 17 #[rv b639, iv (1 : Int32)] [(.int ((1 : Int32) / (65536 : Int32))), (.ref b51_645)])) _
    rw [(by decide : (((1 : Int32) / (65536 : Int32)) : Int32) = (0 : Int32))]
    exact kt
  obtain ⟨c977, Ar977, q977, S977, M977, H977, G977⟩ := id Fi0
  have i977 : ¬ ((0 : Int32) < 0 ∨ c977.slots.size ≤ ((0 : Int32)).toNatClampNeg) := inb_of S977 ⟨by decide, by decide⟩
  have t977 : c977.slots[((0 : Int32)).toNatClampNeg]? = some (.ref b221_648) := Has.at H977 i977 rfl
  have pre980 : ∀ t, Steps p.tables e below (T975.setTop (mkF m 22 #[rv b639, iv (1 : Int32)] [(.int (1 : Int32)), (.ref b221_648)])) t → Steps p.tables e below (s₁.setTop (entryFrame m #[(.ref b639), (.int (1 : Int32))] 2)) t := fun t kt => by
    refine pre978 _ ?_
    show Steps p.tables e below (T975.setTop (mkF m 17 #[rv b639, iv (1 : Int32)] [(.int (0 : Int32)), (.ref b51_645)])) _
    refine X975.aaload hx (j := (0 : Int32)) (v := (.ref b221_648)) (by rw [e975]; exact Ar977.1) (State.isArrayOf_alike hZ.alike Ar977.2.1) rfl Ar977.2.2 i977 t977 (g := (mkF m 17 #[rv b639, iv (1 : Int32)] [(.int (0 : Int32)), (.ref b51_645)])) rfl rfl (hb hby d4_17) _ ?_
    show Steps p.tables e below (T975.setTop (mkF m 18 #[rv b639, iv (1 : Int32)] [(.ref b221_648)])) _
    refine XS.iloadN X975.here hx rfl (hb hby d4_18) rfl ?_
    show Steps p.tables e below (T975.setTop (mkF m 19 #[rv b639, iv (1 : Int32)] [(.int (1 : Int32)), (.ref b221_648)])) _
    refine X975.ldcInt hx hown (mvT hZ (W 20 rfl)) (g := (mkF m 19 #[rv b639, iv (1 : Int32)] [(.int (1 : Int32)), (.ref b221_648)])) rfl (hb hby d4_19) _ ?_
    show Steps p.tables e below (T975.setTop (mkF m 21 #[rv b639, iv (1 : Int32)] [(.int (65536 : Int32)), (.int (1 : Int32)), (.ref b221_648)])) _
    refine XS.irem X975.here hx rfl (hb hby d4_21) rfl (by decide) ?_
    show  Steps p.tables e below (T975.setTop (mkF m 22 #[rv b639, iv (1 : Int32)] [(.int ((1 : Int32) - ((1 : Int32) / (65536 : Int32)) * (65536 : Int32))), (.ref b221_648)])) _
    rw [(by decide : (((1 : Int32) - ((1 : Int32) / (65536 : Int32)) * (65536 : Int32)) : Int32) = (1 : Int32))]
    exact kt
  obtain ⟨c979, Ar979, q979, S979, M979, H979, G979⟩ := id Fi2
  have i979 : ¬ ((1 : Int32) < 0 ∨ c979.slots.size ≤ ((1 : Int32)).toNatClampNeg) := inb_of S979 ⟨by decide, by decide⟩
  have t979 : c979.slots[((1 : Int32)).toNatClampNeg]? = some (.int p1) := Has.at H979 i979 rfl
  have pre981 : ∀ t, Steps p.tables e below (T975.setTop (mkF m 23 #[rv b639, iv (1 : Int32)] [(.int p1)])) t → Steps p.tables e below (s₁.setTop (entryFrame m #[(.ref b639), (.int (1 : Int32))] 2)) t := fun t kt => by
    refine pre980 _ ?_
    show Steps p.tables e below (T975.setTop (mkF m 22 #[rv b639, iv (1 : Int32)] [(.int (1 : Int32)), (.ref b221_648)])) _
    refine X975.iaload hx (j := (1 : Int32)) (v := (.int p1)) (by rw [e975]; exact Ar979.1) (State.isArrayOf_alike hZ.alike Ar979.2.1) Ar979.2.2 i979 t979 (g := (mkF m 22 #[rv b639, iv (1 : Int32)] [(.int (1 : Int32)), (.ref b221_648)])) rfl rfl (hb hby d4_22) _ ?_
    exact kt
  obtain ⟨fs, hr, hrun, hended, hW, hsame⟩ := X975.leave (v := some (.int p1)) (fun h => by rw [Bd.returns] at h; cases h)
  refine ⟨_, _, pre981 _ (retI X975 hx Bd.returns (hb hby d4_23) hr), hrun, hended, _, _, rfl, ?_, ⟨_, rfl⟩, hW, hsame.mono (by decide) (by decide)⟩
  show Q_get4_5 Z b639 k51_645 b51_645 b221_648 p0 p1 p2 k221_648 h0 n0 _ T975.heap _
  rw [e975]
  exact ⟨rfl, N972, rfl⟩
def Q_add3_3 (Z : State) (b1007 : Addr) (p3 : Int32) (k51_1013 : ClassId) (b51_1013 : Addr) (b221_1016 : Addr) (p0 : Int32) (p1 : Int32) (p2 : Int32) (k221_1016 : ClassId) (h0 : Heap) (n0 : Nat) (v : Option Value) (h : Heap) (L : List Loc) : Prop := v = none ∧ Fr n0 L ∧ Keep h0 h [b1007, b221_1016] ∧ Old Z n0 h ∧ Exa Z h b1007 "org/reachwatch/IntBlocks" ∧ Fld Z h b1007 "org/reachwatch/IntBlocks" "blocks" "[[I" (.ref b51_1013) ∧ Exa Z h b221_1016 "[I" ∧ Arv Z h b221_1016 k221_1016 .int (16 : Int32) [(.int p0), (.int p1), (.int p2), (.int p3), (.int (0 : Int32)), (.int (0 : Int32)), (.int (0 : Int32)), (.int (0 : Int32)), (.int (0 : Int32)), (.int (0 : Int32)), (.int (0 : Int32)), (.int (0 : Int32)), (.int (0 : Int32)), (.int (0 : Int32)), (.int (0 : Int32)), (.int (0 : Int32))] (.int (0 : Int32)) ∧ Fld Z h b1007 "org/reachwatch/IntBlocks" "size" "I" (.int (4 : Int32))
set_option maxRecDepth 65536 in
set_option maxHeartbeats 40000000 in
theorem rm_add3_3 (l : Launch) (Z : State) (a0 : Array Value) (hw : ∀ d ∈ tables_1, d.before a0 Z = true) (ws : List Jvm.Cond) (b1007 : Addr) (p3 : Int32) (k51_1013 : ClassId) (b51_1013 : Addr) (b221_1016 : Addr) (p0 : Int32) (p1 : Int32) (p2 : Int32) (k221_1016 : ClassId) (h0 : Heap) (n0 : Nat) (O0 : Old Z n0 h0) (g_b1007 : n0 ≤ b1007) (g_b221_1016 : n0 ≤ b221_1016) (Fi0 : Arv Z h0 b51_1013 k51_1013 (.array .int) (1 : Int32) [(.ref b221_1016)] .null) (Fi1 : Exa Z h0 b1007 "org/reachwatch/IntBlocks") (Fi2 : Fld Z h0 b1007 "org/reachwatch/IntBlocks" "blocks" "[[I" (.ref b51_1013)) (Fi3 : Exa Z h0 b221_1016 "[I") (Fi4 : Arv Z h0 b221_1016 k221_1016 .int (16 : Int32) [(.int p0), (.int p1), (.int p2), (.int (0 : Int32)), (.int (0 : Int32)), (.int (0 : Int32)), (.int (0 : Int32)), (.int (0 : Int32)), (.int (0 : Int32)), (.int (0 : Int32)), (.int (0 : Int32)), (.int (0 : Int32)), (.int (0 : Int32)), (.int (0 : Int32)), (.int (0 : Int32)), (.int (0 : Int32))] (.int (0 : Int32))) (Fi5 : Fld Z h0 b1007 "org/reachwatch/IntBlocks" "size" "I" (.int (3 : Int32))) (q0 : ¬ (b51_1013 = b1007)) (q1 : ¬ (b221_1016 = b1007)) (q2 : ¬ (b221_1016 = b51_1013)) :
    MetFree l (⟨"org/reachwatch/IntBlocks", "add", "(I)V"⟩ : MethodName) (head1 (Jvm.Cond.code (⟨"org/reachwatch/IntBlocks", "add", "(I)V"⟩ : MethodName) prog_56_method_2_code 4 none :: ws) ({ frames := 0, cells := 0, slots := 0, locals := 0 } : Room)) (fun a U => a = #[(.ref b1007), (.int p3)] ∧ Z.Warmed39 U.vm ∧ U.heap = h0) (fun _ _ _ _ _ => True) (fun _ U o U' => ∃ v L, o = .returned v ∧ Q_add3_3 Z b1007 p3 k51_1013 b51_1013 b221_1016 p0 p1 p2 k221_1016 h0 n0 v U'.heap L ∧ FrameEnd U o U' L ({ frames := 0, cells := 0, slots := 0, locals := 0 } : Room).cells ({ frames := 0, cells := 0, slots := 0, locals := 0 } : Room).slots) := by
  refine MetFree.of_bodySF (plainFor_of_name pn_2) hisR ?_
  intro p e s m args below meth c s₁ Bd hml0 hP hK
  have W := fun {d : Jvm.Cond} (i : Nat) (q : tables_1[i]? = some d) => hw d (List.mem_of_getElem? q)
  obtain ⟨rfl, hZ, hh⟩ := hP
  have hx := Bd.exec
  have hby := Bd.bytes
  have hml : c.maxLocals = 4 := hml0
  have hown : s.vm.findClass "org/reachwatch/IntBlocks" = some m.cls := findClass_of_methodNamed Bd.named
  have hnm := (name_of_methodNamed Bd.named Bd.method).1
  have X0 : Stand p l e ({ frames := 0, cells := 0, slots := 0, locals := 0 } : Room) s m #[(.ref b1007), (.int p3)] below meth c s₁ [] 0 0 := Stand.of_body Bd
  have e0 : s₁.heap = h0 := by rw [← hh, Bd.state]; rfl
  have N0 := Fr.nil n0
  have pre0 : ∀ t, Steps p.tables e below (s₁.setTop (mkF m 0 #[rv b1007, iv p3, .unset, .unset] [])) t → Steps p.tables e below (s₁.setTop (entryFrame m #[(.ref b1007), (.int p3)] 4)) t := fun t k => castTop (ef_5 m b1007 p3) k
  have K0 : Keep h0 h0 [b1007, b221_1016] := Keep.refl h0 [b1007, b221_1016]
  have pre1130 : ∀ t, Steps p.tables e below (s₁.setTop (mkF m 1 #[rv b1007, iv p3, .unset, .unset] [(.ref b1007)])) t → Steps p.tables e below (s₁.setTop (entryFrame m #[(.ref b1007), (.int p3)] 4)) t := fun t kt => by
    refine pre0 _ ?_
    show Steps p.tables e below (s₁.setTop (mkF m 0 #[rv b1007, iv p3, .unset, .unset] [])) _
    refine XS.aloadN X0.here hx rfl (hb hby d3_0) rfl rfl ?_
    exact kt
  obtain ⟨T1131, X1131, e1131, st1131⟩ := getF X0 hx hZ hown (host := "") (Or.inl (W 18 rfl)) Via.refl e0 Fi5 (g := (mkF m 1 #[rv b1007, iv p3, .unset, .unset] [(.ref b1007)])) rfl rfl (hb hby d3_1)
  have pre1132 : ∀ t, Steps p.tables e below (T1131.setTop (mkF m 4 #[rv b1007, iv p3, .unset, .unset] [(.int (3 : Int32))])) t → Steps p.tables e below (s₁.setTop (entryFrame m #[(.ref b1007), (.int p3)] 4)) t := fun t kt => pre1130 _ (st1131 _ kt)
  have pre1133 : ∀ t, Steps p.tables e below (T1131.setTop (mkF m 9 #[rv b1007, iv p3, iv (0 : Int32), .unset] [(.ref b1007)])) t → Steps p.tables e below (s₁.setTop (entryFrame m #[(.ref b1007), (.int p3)] 4)) t := fun t kt => by
    refine pre1132 _ ?_
    show Steps p.tables e below (T1131.setTop (mkF m 4 #[rv b1007, iv p3, .unset, .unset] [(.int (3 : Int32))])) _
    refine X1131.ldcInt hx hown (mvT hZ (W 20 rfl)) (g := (mkF m 4 #[rv b1007, iv p3, .unset, .unset] [(.int (3 : Int32))])) rfl (hb hby d3_4) _ ?_
    show Steps p.tables e below (T1131.setTop (mkF m 6 #[rv b1007, iv p3, .unset, .unset] [(.int (65536 : Int32)), (.int (3 : Int32))])) _
    refine XS.idiv X1131.here hx rfl (hb hby d3_6) rfl (by decide) ?_
    show  Steps p.tables e below (T1131.setTop (mkF m 7 #[rv b1007, iv p3, .unset, .unset] [(.int ((3 : Int32) / (65536 : Int32)))])) _
    rw [(by decide : (((3 : Int32) / (65536 : Int32)) : Int32) = (0 : Int32))]
    show Steps p.tables e below (T1131.setTop (mkF m 7 #[rv b1007, iv p3, .unset, .unset] [(.int (0 : Int32))])) _
    refine XS.istoreN X1131.here hx rfl (hb hby d3_7) rfl (l' := #[rv b1007, iv p3, iv (0 : Int32), .unset]) rfl ?_
    show Steps p.tables e below (T1131.setTop (mkF m 8 #[rv b1007, iv p3, iv (0 : Int32), .unset] [])) _
    refine XS.aloadN X1131.here hx rfl (hb hby d3_8) rfl rfl ?_
    exact kt
  obtain ⟨T1134, X1134, e1134, st1134⟩ := getF X1131 hx hZ hown (host := "") (Or.inl (W 18 rfl)) Via.refl e1131 Fi5 (g := (mkF m 9 #[rv b1007, iv p3, iv (0 : Int32), .unset] [(.ref b1007)])) rfl rfl (hb hby d3_9)
  have pre1135 : ∀ t, Steps p.tables e below (T1134.setTop (mkF m 12 #[rv b1007, iv p3, iv (0 : Int32), .unset] [(.int (3 : Int32))])) t → Steps p.tables e below (s₁.setTop (entryFrame m #[(.ref b1007), (.int p3)] 4)) t := fun t kt => pre1133 _ (st1134 _ kt)
  have pre1136 : ∀ t, Steps p.tables e below (T1134.setTop (mkF m 18 #[rv b1007, iv p3, iv (0 : Int32), iv (3 : Int32)] [(.ref b1007), (.int (0 : Int32))])) t → Steps p.tables e below (s₁.setTop (entryFrame m #[(.ref b1007), (.int p3)] 4)) t := fun t kt => by
    refine pre1135 _ ?_
    show Steps p.tables e below (T1134.setTop (mkF m 12 #[rv b1007, iv p3, iv (0 : Int32), .unset] [(.int (3 : Int32))])) _
    refine X1134.ldcInt hx hown (mvT hZ (W 20 rfl)) (g := (mkF m 12 #[rv b1007, iv p3, iv (0 : Int32), .unset] [(.int (3 : Int32))])) rfl (hb hby d3_12) _ ?_
    show Steps p.tables e below (T1134.setTop (mkF m 14 #[rv b1007, iv p3, iv (0 : Int32), .unset] [(.int (65536 : Int32)), (.int (3 : Int32))])) _
    refine XS.irem X1134.here hx rfl (hb hby d3_14) rfl (by decide) ?_
    show  Steps p.tables e below (T1134.setTop (mkF m 15 #[rv b1007, iv p3, iv (0 : Int32), .unset] [(.int ((3 : Int32) - ((3 : Int32) / (65536 : Int32)) * (65536 : Int32)))])) _
    rw [(by decide : (((3 : Int32) - ((3 : Int32) / (65536 : Int32)) * (65536 : Int32)) : Int32) = (3 : Int32))]
    show Steps p.tables e below (T1134.setTop (mkF m 15 #[rv b1007, iv p3, iv (0 : Int32), .unset] [(.int (3 : Int32))])) _
    refine XS.istoreN X1134.here hx rfl (hb hby d3_15) rfl (l' := #[rv b1007, iv p3, iv (0 : Int32), iv (3 : Int32)]) rfl ?_
    show Steps p.tables e below (T1134.setTop (mkF m 16 #[rv b1007, iv p3, iv (0 : Int32), iv (3 : Int32)] [])) _
    refine XS.iloadN X1134.here hx rfl (hb hby d3_16) rfl ?_
    show Steps p.tables e below (T1134.setTop (mkF m 17 #[rv b1007, iv p3, iv (0 : Int32), iv (3 : Int32)] [(.int (0 : Int32))])) _
    refine XS.aloadN X1134.here hx rfl (hb hby d3_17) rfl rfl ?_
    exact kt
  obtain ⟨T1137, X1137, e1137, st1137⟩ := getF X1134 hx hZ hown (host := "") (Or.inl (W 11 rfl)) Via.refl e1134 Fi2 (g := (mkF m 18 #[rv b1007, iv p3, iv (0 : Int32), iv (3 : Int32)] [(.ref b1007), (.int (0 : Int32))])) rfl rfl (hb hby d3_18)
  have pre1138 : ∀ t, Steps p.tables e below (T1137.setTop (mkF m 21 #[rv b1007, iv p3, iv (0 : Int32), iv (3 : Int32)] [(.ref b51_1013), (.int (0 : Int32))])) t → Steps p.tables e below (s₁.setTop (entryFrame m #[(.ref b1007), (.int p3)] 4)) t := fun t kt => pre1136 _ (st1137 _ kt)
  obtain ⟨c1139, Ar1139, -, S1139, M1139, -, -⟩ := id Fi0
  have pre1140 : ∀ t, Steps p.tables e below (T1137.setTop (mkF m 43 #[rv b1007, iv p3, iv (0 : Int32), iv (3 : Int32)] [(.ref b1007)])) t → Steps p.tables e below (s₁.setTop (entryFrame m #[(.ref b1007), (.int p3)] 4)) t := fun t kt => by
    refine pre1138 _ ?_
    show Steps p.tables e below (T1137.setTop (mkF m 21 #[rv b1007, iv p3, iv (0 : Int32), iv (3 : Int32)] [(.ref b51_1013), (.int (0 : Int32))])) _
    refine X1137.arraylength hx (by rw [e1137]; exact Ar1139.1) (State.isArrayOf_alike hZ.alike Ar1139.2.1) (g := (mkF m 21 #[rv b1007, iv p3, iv (0 : Int32), iv (3 : Int32)] [(.ref b51_1013), (.int (0 : Int32))])) rfl rfl (hb hby d3_21) _ ?_
    rw [len_of S1139 M1139]
    show Steps p.tables e below (T1137.setTop (mkF m 22 #[rv b1007, iv p3, iv (0 : Int32), iv (3 : Int32)] [(.int (1 : Int32)), (.int (0 : Int32))])) _
    refine XS.icmpYes X1137.here hx rfl (pc0 := 22) (pc' := 42) rfl (hb hby d3_22) rfl (XT.ii_ne_t (by decide)) (by decide) (by decide) ?_
    show Steps p.tables e below (T1137.setTop (mkF m 42 #[rv b1007, iv p3, iv (0 : Int32), iv (3 : Int32)] [])) _
    refine XS.aloadN X1137.here hx rfl (hb hby d3_42) rfl rfl ?_
    exact kt
  obtain ⟨T1141, X1141, e1141, st1141⟩ := getF X1137 hx hZ hown (host := "") (Or.inl (W 11 rfl)) Via.refl e1137 Fi2 (g := (mkF m 43 #[rv b1007, iv p3, iv (0 : Int32), iv (3 : Int32)] [(.ref b1007)])) rfl rfl (hb hby d3_43)
  have pre1142 : ∀ t, Steps p.tables e below (T1141.setTop (mkF m 46 #[rv b1007, iv p3, iv (0 : Int32), iv (3 : Int32)] [(.ref b51_1013)])) t → Steps p.tables e below (s₁.setTop (entryFrame m #[(.ref b1007), (.int p3)] 4)) t := fun t kt => pre1140 _ (st1141 _ kt)
  have pre1144 : ∀ t, Steps p.tables e below (T1141.setTop (mkF m 47 #[rv b1007, iv p3, iv (0 : Int32), iv (3 : Int32)] [(.int (0 : Int32)), (.ref b51_1013)])) t → Steps p.tables e below (s₁.setTop (entryFrame m #[(.ref b1007), (.int p3)] 4)) t := fun t kt => by
    refine pre1142 _ ?_
    show Steps p.tables e below (T1141.setTop (mkF m 46 #[rv b1007, iv p3, iv (0 : Int32), iv (3 : Int32)] [(.ref b51_1013)])) _
    refine XS.iloadN X1141.here hx rfl (hb hby d3_46) rfl ?_
    exact kt
  obtain ⟨c1143, Ar1143, q1143, S1143, M1143, H1143, G1143⟩ := id Fi0
  have i1143 : ¬ ((0 : Int32) < 0 ∨ c1143.slots.size ≤ ((0 : Int32)).toNatClampNeg) := inb_of S1143 ⟨by decide, by decide⟩
  have t1143 : c1143.slots[((0 : Int32)).toNatClampNeg]? = some (.ref b221_1016) := Has.at H1143 i1143 rfl
  have pre1145 : ∀ t, Steps p.tables e below (T1141.setTop (mkF m 75 #[rv b1007, iv p3, iv (0 : Int32), iv (3 : Int32)] [(.ref b1007), (.int (3 : Int32))])) t → Steps p.tables e below (s₁.setTop (entryFrame m #[(.ref b1007), (.int p3)] 4)) t := fun t kt => by
    refine pre1144 _ ?_
    show Steps p.tables e below (T1141.setTop (mkF m 47 #[rv b1007, iv p3, iv (0 : Int32), iv (3 : Int32)] [(.int (0 : Int32)), (.ref b51_1013)])) _
    refine X1141.aaload hx (j := (0 : Int32)) (v := (.ref b221_1016)) (by rw [e1141]; exact Ar1143.1) (State.isArrayOf_alike hZ.alike Ar1143.2.1) rfl Ar1143.2.2 i1143 t1143 (g := (mkF m 47 #[rv b1007, iv p3, iv (0 : Int32), iv (3 : Int32)] [(.int (0 : Int32)), (.ref b51_1013)])) rfl rfl (hb hby d3_47) _ ?_
    show Steps p.tables e below (T1141.setTop (mkF m 48 #[rv b1007, iv p3, iv (0 : Int32), iv (3 : Int32)] [(.ref b221_1016)])) _
    refine XS.ifnonnullYes X1141.here hx rfl (pc0 := 48) (pc' := 73) rfl (hb hby d3_48) rfl (by decide) (by decide) ?_
    show Steps p.tables e below (T1141.setTop (mkF m 73 #[rv b1007, iv p3, iv (0 : Int32), iv (3 : Int32)] [])) _
    refine XS.iloadN X1141.here hx rfl (hb hby d3_73) rfl ?_
    show Steps p.tables e below (T1141.setTop (mkF m 74 #[rv b1007, iv p3, iv (0 : Int32), iv (3 : Int32)] [(.int (3 : Int32))])) _
    refine XS.aloadN X1141.here hx rfl (hb hby d3_74) rfl rfl ?_
    exact kt
  obtain ⟨T1146, X1146, e1146, st1146⟩ := getF X1141 hx hZ hown (host := "") (Or.inl (W 11 rfl)) Via.refl e1141 Fi2 (g := (mkF m 75 #[rv b1007, iv p3, iv (0 : Int32), iv (3 : Int32)] [(.ref b1007), (.int (3 : Int32))])) rfl rfl (hb hby d3_75)
  have pre1147 : ∀ t, Steps p.tables e below (T1146.setTop (mkF m 78 #[rv b1007, iv p3, iv (0 : Int32), iv (3 : Int32)] [(.ref b51_1013), (.int (3 : Int32))])) t → Steps p.tables e below (s₁.setTop (entryFrame m #[(.ref b1007), (.int p3)] 4)) t := fun t kt => pre1145 _ (st1146 _ kt)
  have pre1149 : ∀ t, Steps p.tables e below (T1146.setTop (mkF m 79 #[rv b1007, iv p3, iv (0 : Int32), iv (3 : Int32)] [(.int (0 : Int32)), (.ref b51_1013), (.int (3 : Int32))])) t → Steps p.tables e below (s₁.setTop (entryFrame m #[(.ref b1007), (.int p3)] 4)) t := fun t kt => by
    refine pre1147 _ ?_
    show Steps p.tables e below (T1146.setTop (mkF m 78 #[rv b1007, iv p3, iv (0 : Int32), iv (3 : Int32)] [(.ref b51_1013), (.int (3 : Int32))])) _
    refine XS.iloadN X1146.here hx rfl (hb hby d3_78) rfl ?_
    exact kt
  obtain ⟨c1148, Ar1148, q1148, S1148, M1148, H1148, G1148⟩ := id Fi0
  have i1148 : ¬ ((0 : Int32) < 0 ∨ c1148.slots.size ≤ ((0 : Int32)).toNatClampNeg) := inb_of S1148 ⟨by decide, by decide⟩
  have t1148 : c1148.slots[((0 : Int32)).toNatClampNeg]? = some (.ref b221_1016) := Has.at H1148 i1148 rfl
  have pre1151 : ∀ t, Steps p.tables e below (T1146.setTop (mkF m 80 #[rv b1007, iv p3, iv (0 : Int32), iv (3 : Int32)] [(.ref b221_1016), (.int (3 : Int32))])) t → Steps p.tables e below (s₁.setTop (entryFrame m #[(.ref b1007), (.int p3)] 4)) t := fun t kt => by
    refine pre1149 _ ?_
    show Steps p.tables e below (T1146.setTop (mkF m 79 #[rv b1007, iv p3, iv (0 : Int32), iv (3 : Int32)] [(.int (0 : Int32)), (.ref b51_1013), (.int (3 : Int32))])) _
    refine X1146.aaload hx (j := (0 : Int32)) (v := (.ref b221_1016)) (by rw [e1146]; exact Ar1148.1) (State.isArrayOf_alike hZ.alike Ar1148.2.1) rfl Ar1148.2.2 i1148 t1148 (g := (mkF m 79 #[rv b1007, iv p3, iv (0 : Int32), iv (3 : Int32)] [(.int (0 : Int32)), (.ref b51_1013), (.int (3 : Int32))])) rfl rfl (hb hby d3_79) _ ?_
    exact kt
  obtain ⟨c1150, Ar1150, -, S1150, M1150, -, -⟩ := id Fi4
  have pre1152 : ∀ t, Steps p.tables e below (T1146.setTop (mkF m 103 #[rv b1007, iv p3, iv (0 : Int32), iv (3 : Int32)] [(.ref b1007)])) t → Steps p.tables e below (s₁.setTop (entryFrame m #[(.ref b1007), (.int p3)] 4)) t := fun t kt => by
    refine pre1151 _ ?_
    show Steps p.tables e below (T1146.setTop (mkF m 80 #[rv b1007, iv p3, iv (0 : Int32), iv (3 : Int32)] [(.ref b221_1016), (.int (3 : Int32))])) _
    refine X1146.arraylength hx (by rw [e1146]; exact Ar1150.1) (State.isArrayOf_alike hZ.alike Ar1150.2.1) (g := (mkF m 80 #[rv b1007, iv p3, iv (0 : Int32), iv (3 : Int32)] [(.ref b221_1016), (.int (3 : Int32))])) rfl rfl (hb hby d3_80) _ ?_
    rw [len_of S1150 M1150]
    show Steps p.tables e below (T1146.setTop (mkF m 81 #[rv b1007, iv p3, iv (0 : Int32), iv (3 : Int32)] [(.int (16 : Int32)), (.int (3 : Int32))])) _
    refine XS.icmpYes X1146.here hx rfl (pc0 := 81) (pc' := 102) rfl (hb hby d3_81) rfl (XT.ii_ne_t (by decide)) (by decide) (by decide) ?_
    show Steps p.tables e below (T1146.setTop (mkF m 102 #[rv b1007, iv p3, iv (0 : Int32), iv (3 : Int32)] [])) _
    refine XS.aloadN X1146.here hx rfl (hb hby d3_102) rfl rfl ?_
    exact kt
  obtain ⟨T1153, X1153, e1153, st1153⟩ := getF X1146 hx hZ hown (host := "") (Or.inl (W 11 rfl)) Via.refl e1146 Fi2 (g := (mkF m 103 #[rv b1007, iv p3, iv (0 : Int32), iv (3 : Int32)] [(.ref b1007)])) rfl rfl (hb hby d3_103)
  have pre1154 : ∀ t, Steps p.tables e below (T1153.setTop (mkF m 106 #[rv b1007, iv p3, iv (0 : Int32), iv (3 : Int32)] [(.ref b51_1013)])) t → Steps p.tables e below (s₁.setTop (entryFrame m #[(.ref b1007), (.int p3)] 4)) t := fun t kt => pre1152 _ (st1153 _ kt)
  have pre1156 : ∀ t, Steps p.tables e below (T1153.setTop (mkF m 107 #[rv b1007, iv p3, iv (0 : Int32), iv (3 : Int32)] [(.int (0 : Int32)), (.ref b51_1013)])) t → Steps p.tables e below (s₁.setTop (entryFrame m #[(.ref b1007), (.int p3)] 4)) t := fun t kt => by
    refine pre1154 _ ?_
    show Steps p.tables e below (T1153.setTop (mkF m 106 #[rv b1007, iv p3, iv (0 : Int32), iv (3 : Int32)] [(.ref b51_1013)])) _
    refine XS.iloadN X1153.here hx rfl (hb hby d3_106) rfl ?_
    exact kt
  obtain ⟨c1155, Ar1155, q1155, S1155, M1155, H1155, G1155⟩ := id Fi0
  have i1155 : ¬ ((0 : Int32) < 0 ∨ c1155.slots.size ≤ ((0 : Int32)).toNatClampNeg) := inb_of S1155 ⟨by decide, by decide⟩
  have t1155 : c1155.slots[((0 : Int32)).toNatClampNeg]? = some (.ref b221_1016) := Has.at H1155 i1155 rfl
  have pre1157 : ∀ t, Steps p.tables e below (T1153.setTop (mkF m 110 #[rv b1007, iv p3, iv (0 : Int32), iv (3 : Int32)] [(.int p3), (.int (3 : Int32)), (.ref b221_1016)])) t → Steps p.tables e below (s₁.setTop (entryFrame m #[(.ref b1007), (.int p3)] 4)) t := fun t kt => by
    refine pre1156 _ ?_
    show Steps p.tables e below (T1153.setTop (mkF m 107 #[rv b1007, iv p3, iv (0 : Int32), iv (3 : Int32)] [(.int (0 : Int32)), (.ref b51_1013)])) _
    refine X1153.aaload hx (j := (0 : Int32)) (v := (.ref b221_1016)) (by rw [e1153]; exact Ar1155.1) (State.isArrayOf_alike hZ.alike Ar1155.2.1) rfl Ar1155.2.2 i1155 t1155 (g := (mkF m 107 #[rv b1007, iv p3, iv (0 : Int32), iv (3 : Int32)] [(.int (0 : Int32)), (.ref b51_1013)])) rfl rfl (hb hby d3_107) _ ?_
    show Steps p.tables e below (T1153.setTop (mkF m 108 #[rv b1007, iv p3, iv (0 : Int32), iv (3 : Int32)] [(.ref b221_1016)])) _
    refine XS.iloadN X1153.here hx rfl (hb hby d3_108) rfl ?_
    show Steps p.tables e below (T1153.setTop (mkF m 109 #[rv b1007, iv p3, iv (0 : Int32), iv (3 : Int32)] [(.int (3 : Int32)), (.ref b221_1016)])) _
    refine XS.iloadN X1153.here hx rfl (hb hby d3_109) rfl ?_
    exact kt
  obtain ⟨c1158, Ar1158, q1158, S1158, M1158, H1158, G1158⟩ := id Fi4
  have i1158 : ¬ ((3 : Int32) < 0 ∨ c1158.slots.size ≤ ((3 : Int32)).toNatClampNeg) := inb_of S1158 ⟨by decide, by decide⟩
  obtain ⟨T1159, h1159, X1159, e1159, W1159, st1159⟩ := stI X1153 hx hZ e1153 Ar1158 (j := (3 : Int32)) i1158 (g := (mkF m 110 #[rv b1007, iv p3, iv (0 : Int32), iv (3 : Int32)] [(.int p3), (.int (3 : Int32)), (.ref b221_1016)])) rfl rfl (hb hby d3_110)
  have pre1160 : ∀ t, Steps p.tables e below (T1159.setTop (mkF m 111 #[rv b1007, iv p3, iv (0 : Int32), iv (3 : Int32)] [])) t → Steps p.tables e below (s₁.setTop (entryFrame m #[(.ref b1007), (.int p3)] 4)) t := fun t kt => pre1157 _ (st1159 _ kt)
  have N1159 := Fr.snoc X1159 N0 g_b221_1016
  have O1159 := O0.wr W1159 g_b221_1016
  have K1159 : Keep h0 h1159 [b1007, b221_1016] := K0.wr W1159 (Or.inl (List.mem_of_getElem? (i := 1) rfl))
  have F1161 := Fi0.other W1159 (fun q => q2 q.symm)
  have F1162 := Fi1.wr W1159
  have F1163 := Fi2.other W1159 (Or.inl (fun q => q1 q.symm))
  have F1164 := Fi3.wr W1159
  have F1165 := Fi5.other W1159 (Or.inl (fun q => q1 q.symm))
  have F1166 : Arv Z h1159 b221_1016 k221_1016 .int (16 : Int32) [(.int p0), (.int p1), (.int p2), (.int p3), (.int (0 : Int32)), (.int (0 : Int32)), (.int (0 : Int32)), (.int (0 : Int32)), (.int (0 : Int32)), (.int (0 : Int32)), (.int (0 : Int32)), (.int (0 : Int32)), (.int (0 : Int32)), (.int (0 : Int32)), (.int (0 : Int32)), (.int (0 : Int32))] (.int (0 : Int32)) := Arv.set Ar1158 q1158 S1158 M1158 H1158 G1158 rfl W1159 3 rfl (Nat.le_of_ble_eq_true rfl)
  have pre1167 : ∀ t, Steps p.tables e below (T1159.setTop (mkF m 113 #[rv b1007, iv p3, iv (0 : Int32), iv (3 : Int32)] [(.ref b1007), (.ref b1007)])) t → Steps p.tables e below (s₁.setTop (entryFrame m #[(.ref b1007), (.int p3)] 4)) t := fun t kt => by
    refine pre1160 _ ?_
    show Steps p.tables e below (T1159.setTop (mkF m 111 #[rv b1007, iv p3, iv (0 : Int32), iv (3 : Int32)] [])) _
    refine XS.aloadN X1159.here hx rfl (hb hby d3_111) rfl rfl ?_
    show Steps p.tables e below (T1159.setTop (mkF m 112 #[rv b1007, iv p3, iv (0 : Int32), iv (3 : Int32)] [(.ref b1007)])) _
    refine XS.dup X1159.here hx rfl (hb hby d3_112) rfl rfl ?_
    exact kt
  obtain ⟨T1168, X1168, e1168, st1168⟩ := getF X1159 hx hZ hown (host := "") (Or.inl (W 18 rfl)) Via.refl e1159 F1165 (g := (mkF m 113 #[rv b1007, iv p3, iv (0 : Int32), iv (3 : Int32)] [(.ref b1007), (.ref b1007)])) rfl rfl (hb hby d3_113)
  have pre1169 : ∀ t, Steps p.tables e below (T1168.setTop (mkF m 116 #[rv b1007, iv p3, iv (0 : Int32), iv (3 : Int32)] [(.int (3 : Int32)), (.ref b1007)])) t → Steps p.tables e below (s₁.setTop (entryFrame m #[(.ref b1007), (.int p3)] 4)) t := fun t kt => pre1167 _ (st1168 _ kt)
  have pre1170 : ∀ t, Steps p.tables e below (T1168.setTop (mkF m 118 #[rv b1007, iv p3, iv (0 : Int32), iv (3 : Int32)] [(.int (4 : Int32)), (.ref b1007)])) t → Steps p.tables e below (s₁.setTop (entryFrame m #[(.ref b1007), (.int p3)] 4)) t := fun t kt => by
    refine pre1169 _ ?_
    show Steps p.tables e below (T1168.setTop (mkF m 116 #[rv b1007, iv p3, iv (0 : Int32), iv (3 : Int32)] [(.int (3 : Int32)), (.ref b1007)])) _
    refine XS.iconst X1168.here hx rfl (hb hby d3_116) ?_
    show Steps p.tables e below (T1168.setTop (mkF m 117 #[rv b1007, iv p3, iv (0 : Int32), iv (3 : Int32)] [(.int (1 : Int32)), (.int (3 : Int32)), (.ref b1007)])) _
    refine XS.iadd X1168.here hx rfl (hb hby d3_117) rfl ?_
    show  Steps p.tables e below (T1168.setTop (mkF m 118 #[rv b1007, iv p3, iv (0 : Int32), iv (3 : Int32)] [(.int ((3 : Int32) + (1 : Int32))), (.ref b1007)])) _
    rw [(by decide : (((3 : Int32) + (1 : Int32)) : Int32) = (4 : Int32))]
    exact kt
  obtain ⟨T1171, h1171, X1171, e1171, W1171, st1171⟩ := putF X1168 hx hZ hown (host := "") (Or.inl (W 18 rfl)) Via.refl e1168 F1165 F1162 (Or.inl (W 19 rfl)) (W 1 rfl) (ty := .int) (by decide) rfl rfl (g := (mkF m 118 #[rv b1007, iv p3, iv (0 : Int32), iv (3 : Int32)] [(.int (4 : Int32)), (.ref b1007)])) rfl rfl (hb hby d3_118)
  have pre1172 : ∀ t, Steps p.tables e below (T1171.setTop (mkF m 121 #[rv b1007, iv p3, iv (0 : Int32), iv (3 : Int32)] [])) t → Steps p.tables e below (s₁.setTop (entryFrame m #[(.ref b1007), (.int p3)] 4)) t := fun t kt => pre1170 _ (st1171 _ kt)
  have N1171 := Fr.snoc X1171 N1159 g_b1007
  have O1171 := O1159.wr W1171 g_b1007
  have K1171 : Keep h0 h1171 [b1007, b221_1016] := K1159.wr W1171 (Or.inl (List.mem_of_getElem? (i := 0) rfl))
  have F1173 := F1161.other W1171 q0
  have F1174 := F1162.wr W1171
  have F1175 := F1163.other W1171 (Or.inr (slot_ne (Or.inl (W 12 rfl)) (Or.inl (W 19 rfl)) (by decide) (t := (.array (.array .int))) (t' := .int) (by decide) (by decide)))
  have F1176 := F1164.wr W1171
  have F1177 := F1166.other W1171 q1
  have F1178 : Fld Z h1171 b1007 "org/reachwatch/IntBlocks" "size" "I" (.int (4 : Int32)) := F1165.same W1171
  obtain ⟨fs, hr, hrun, hended, hW, hsame⟩ := X1171.leave (v := none) (fun _ => rfl)
  refine ⟨_, _, pre1172 _ (X1171.returnOut hx Bd.returns (hb hby d3_121) hr), hrun, hended, _, _, rfl, ?_, ⟨_, rfl⟩, hW, hsame.mono (by decide) (by decide)⟩
  show Q_add3_3 Z b1007 p3 k51_1013 b51_1013 b221_1016 p0 p1 p2 k221_1016 h0 n0 _ T1171.heap _
  rw [e1171]
  exact ⟨rfl, N1171, K1171, O1171, F1174, F1175, F1176, F1177, F1178⟩
def Q_checkIndex6_6 (Z : State)  (h0 : Heap) (n0 : Nat) (v : Option Value) (h : Heap) (L : List Loc) : Prop := v = some (.int (0 : Int32)) ∧ Fr n0 L ∧ h = h0
set_option maxRecDepth 65536 in
set_option maxHeartbeats 40000000 in
theorem rm_checkIndex6_6 (l : Launch) (Z : State) (a0 : Array Value) (hw : ∀ d ∈ tables_1, d.before a0 Z = true) (ws : List Jvm.Cond)  (h0 : Heap) (n0 : Nat) (O0 : Old Z n0 h0) :
    MetFree l (⟨"jdk/internal/util/Preconditions", "checkIndex", "(IILjava/util/function/BiFunction;)I"⟩ : MethodName) (head1 (Jvm.Cond.code (⟨"jdk/internal/util/Preconditions", "checkIndex", "(IILjava/util/function/BiFunction;)I"⟩ : MethodName) jdk_41_method_11_code 3 (some .int) :: ws) ({ frames := 0, cells := 0, slots := 0, locals := 0 } : Room)) (fun a U => a = #[(.int (0 : Int32)), (.int (4 : Int32)), .null] ∧ Z.Warmed39 U.vm ∧ U.heap = h0) (fun _ _ _ _ _ => True) (fun _ U o U' => ∃ v L, o = .returned v ∧ Q_checkIndex6_6 Z  h0 n0 v U'.heap L ∧ FrameEnd U o U' L ({ frames := 0, cells := 0, slots := 0, locals := 0 } : Room).cells ({ frames := 0, cells := 0, slots := 0, locals := 0 } : Room).slots) := by
  refine MetFree.of_bodySF (plainFor_of_name pn_7) hisR ?_
  intro p e s m args below meth c s₁ Bd hml0 hP hK
  have W := fun {d : Jvm.Cond} (i : Nat) (q : tables_1[i]? = some d) => hw d (List.mem_of_getElem? q)
  obtain ⟨rfl, hZ, hh⟩ := hP
  have hx := Bd.exec
  have hby := Bd.bytes
  have hml : c.maxLocals = 3 := hml0
  have hown : s.vm.findClass "jdk/internal/util/Preconditions" = some m.cls := findClass_of_methodNamed Bd.named
  have hnm := (name_of_methodNamed Bd.named Bd.method).1
  have X0 : Stand p l e ({ frames := 0, cells := 0, slots := 0, locals := 0 } : Room) s m #[(.int (0 : Int32)), (.int (4 : Int32)), .null] below meth c s₁ [] 0 0 := Stand.of_body Bd
  have e0 : s₁.heap = h0 := by rw [← hh, Bd.state]; rfl
  have N0 := Fr.nil n0
  have pre0 : ∀ t, Steps p.tables e below (s₁.setTop (mkF m 0 #[iv (0 : Int32), iv (4 : Int32), .val .null] [])) t → Steps p.tables e below (s₁.setTop (entryFrame m #[(.int (0 : Int32)), (.int (4 : Int32)), .null] 3)) t := fun t k => castTop (ef_8 m (0 : Int32) (4 : Int32)) k
  have K0 : Keep h0 h0 [] := Keep.refl h0 []
  have pre1194 : ∀ t, Steps p.tables e below (s₁.setTop (mkF m 17 #[iv (0 : Int32), iv (4 : Int32), .val .null] [(.int (0 : Int32))])) t → Steps p.tables e below (s₁.setTop (entryFrame m #[(.int (0 : Int32)), (.int (4 : Int32)), .null] 3)) t := fun t kt => by
    refine pre0 _ ?_
    show Steps p.tables e below (s₁.setTop (mkF m 0 #[iv (0 : Int32), iv (4 : Int32), .val .null] [])) _
    refine XS.iloadN X0.here hx rfl (hb hby d6_0) rfl ?_
    show Steps p.tables e below (s₁.setTop (mkF m 1 #[iv (0 : Int32), iv (4 : Int32), .val .null] [(.int (0 : Int32))])) _
    refine XS.ifNo X0.here hx rfl (hb hby d6_1) rfl (XT.i0_lt_f (by decide)) ?_
    show Steps p.tables e below (s₁.setTop (mkF m 4 #[iv (0 : Int32), iv (4 : Int32), .val .null] [])) _
    refine XS.iloadN X0.here hx rfl (hb hby d6_4) rfl ?_
    show Steps p.tables e below (s₁.setTop (mkF m 5 #[iv (0 : Int32), iv (4 : Int32), .val .null] [(.int (0 : Int32))])) _
    refine XS.iloadN X0.here hx rfl (hb hby d6_5) rfl ?_
    show Steps p.tables e below (s₁.setTop (mkF m 6 #[iv (0 : Int32), iv (4 : Int32), .val .null] [(.int (4 : Int32)), (.int (0 : Int32))])) _
    refine XS.icmpYes X0.here hx rfl (pc0 := 6) (pc' := 16) rfl (hb hby d6_6) rfl (XT.ii_lt_t (by decide)) (by decide) (by decide) ?_
    show Steps p.tables e below (s₁.setTop (mkF m 16 #[iv (0 : Int32), iv (4 : Int32), .val .null] [])) _
    refine XS.iloadN X0.here hx rfl (hb hby d6_16) rfl ?_
    exact kt
  obtain ⟨fs, hr, hrun, hended, hW, hsame⟩ := X0.leave (v := some (.int (0 : Int32))) (fun h => by rw [Bd.returns] at h; cases h)
  refine ⟨_, _, pre1194 _ (retI X0 hx Bd.returns (hb hby d6_17) hr), hrun, hended, _, _, rfl, ?_, ⟨_, rfl⟩, hW, hsame.mono (by decide) (by decide)⟩
  show Q_checkIndex6_6 Z  h0 n0 _ s₁.heap _
  rw [e0]
  exact ⟨rfl, N0, rfl⟩
def Q_checkIndex5_6 (Z : State)  (h0 : Heap) (n0 : Nat) (v : Option Value) (h : Heap) (L : List Loc) : Prop := v = some (.int (0 : Int32)) ∧ Fr n0 L ∧ h = h0
set_option maxRecDepth 65536 in
set_option maxHeartbeats 40000000 in
theorem rm_checkIndex5_6 (l : Launch) (Z : State) (a0 : Array Value) (hw : ∀ d ∈ tables_1, d.before a0 Z = true) (ws : List Jvm.Cond)  (h0 : Heap) (n0 : Nat) (O0 : Old Z n0 h0) :
    MetFree l (⟨"java/util/Objects", "checkIndex", "(II)I"⟩ : MethodName) (head1 (Jvm.Cond.code (⟨"java/util/Objects", "checkIndex", "(II)I"⟩ : MethodName) jdk_31_method_17_code 2 (some .int) :: ws) ({ frames := 1, cells := 0, slots := 0, locals := 14 } : Room)) (fun a U => a = #[(.int (0 : Int32)), (.int (4 : Int32))] ∧ Z.Warmed39 U.vm ∧ U.heap = h0) (fun _ _ _ _ _ => True) (fun _ U o U' => ∃ v L, o = .returned v ∧ Q_checkIndex5_6 Z  h0 n0 v U'.heap L ∧ FrameEnd U o U' L ({ frames := 1, cells := 0, slots := 0, locals := 14 } : Room).cells ({ frames := 1, cells := 0, slots := 0, locals := 14 } : Room).slots) := by
  refine MetFree.of_bodySF (plainFor_of_name pn_10) hisR ?_
  intro p e s m args below meth c s₁ Bd hml0 hP hK
  have W := fun {d : Jvm.Cond} (i : Nat) (q : tables_1[i]? = some d) => hw d (List.mem_of_getElem? q)
  obtain ⟨rfl, hZ, hh⟩ := hP
  have hx := Bd.exec
  have hby := Bd.bytes
  have hml : c.maxLocals = 2 := hml0
  have hown : s.vm.findClass "java/util/Objects" = some m.cls := findClass_of_methodNamed Bd.named
  have hnm := (name_of_methodNamed Bd.named Bd.method).1
  have X0 : Stand p l e ({ frames := 1, cells := 0, slots := 0, locals := 14 } : Room) s m #[(.int (0 : Int32)), (.int (4 : Int32))] below meth c s₁ [] 0 0 := Stand.of_body Bd
  have e0 : s₁.heap = h0 := by rw [← hh, Bd.state]; rfl
  have N0 := Fr.nil n0
  have pre0 : ∀ t, Steps p.tables e below (s₁.setTop (mkF m 0 #[iv (0 : Int32), iv (4 : Int32)] [])) t → Steps p.tables e below (s₁.setTop (entryFrame m #[(.int (0 : Int32)), (.int (4 : Int32))] 2)) t := fun t k => castTop (ef_11 m (0 : Int32) (4 : Int32)) k
  have K0 : Keep h0 h0 [] := Keep.refl h0 []
  have pre1199 : ∀ t, Steps p.tables e below (s₁.setTop (mkF m 3 #[iv (0 : Int32), iv (4 : Int32)] [.null, (.int (4 : Int32)), (.int (0 : Int32))])) t → Steps p.tables e below (s₁.setTop (entryFrame m #[(.int (0 : Int32)), (.int (4 : Int32))] 2)) t := fun t kt => by
    refine pre0 _ ?_
    show Steps p.tables e below (s₁.setTop (mkF m 0 #[iv (0 : Int32), iv (4 : Int32)] [])) _
    refine XS.iloadN X0.here hx rfl (hb hby d5_0) rfl ?_
    show Steps p.tables e below (s₁.setTop (mkF m 1 #[iv (0 : Int32), iv (4 : Int32)] [(.int (0 : Int32))])) _
    refine XS.iloadN X0.here hx rfl (hb hby d5_1) rfl ?_
    show Steps p.tables e below (s₁.setTop (mkF m 2 #[iv (0 : Int32), iv (4 : Int32)] [(.int (4 : Int32)), (.int (0 : Int32))])) _
    refine XS.aconstNull X0.here hx rfl (hb hby d5_2) ?_
    exact kt
  obtain ⟨_, _, ⟨T1200, L1200, k1200, n1200⟩, -, X1200, ⟨Lc1200, hQ1200, l1200, y1200, z1200⟩, st1200⟩ := Jvm.LawKit.callS X0 hx (y := (⟨"jdk/internal/util/Preconditions", "checkIndex", "(IILjava/util/function/BiFunction;)I"⟩ : MethodName)) hown (mvT hZ (W 33 rfl)) (mvT hZ (W 34 rfl)) (mvT hZ (W 35 rfl)) (mvT hZ (W 36 rfl)) (by decide) (backOf (W := 0) (rm_checkIndex6_6 l Z a0 hw [] h0 n0 O0) hZ (W 36 rfl) (W 35 rfl) (by decide) (by decide)) (g := (mkF m 3 #[iv (0 : Int32), iv (4 : Int32)] [.null, (.int (4 : Int32)), (.int (0 : Int32))])) rfl (by rw [hml]; rfl) (argsL := [(.int (0 : Int32)), (.int (4 : Int32)), .null]) (rest := []) (lenOf pd_9 rfl) rfl (by show 2 * 0 + _ ≤ _; exact Nat.le_of_eq rfl) (hb hby d5_3) (fun _ _ => ⟨rfl, e0, (by decide : 0 + 0 ≤ _), (by decide : 0 + 0 ≤ _)⟩)
  dsimp only [Pt.U, Pt.locs, Pt.cells, Pt.slots] at X1200 l1200 y1200 z1200 st1200 hQ1200
  replace l1200 := l1200.symm
  replace y1200 : 0 = k1200 := y1200.symm
  replace z1200 : 0 = n1200 := z1200.symm
  subst l1200 y1200 z1200
  obtain ⟨rfl, M1200, e1200⟩ := hQ1200
  have N1200 := Fr.app N0 M1200
  have pre1201 : ∀ t, Steps p.tables e below (T1200.setTop (mkF m 6 #[iv (0 : Int32), iv (4 : Int32)] [(.int (0 : Int32))])) t → Steps p.tables e below (s₁.setTop (entryFrame m #[(.int (0 : Int32)), (.int (4 : Int32))] 2)) t := fun t kt => pre1199 _ (st1200 _ kt)
  obtain ⟨fs, hr, hrun, hended, hW, hsame⟩ := X1200.leave (v := some (.int (0 : Int32))) (fun h => by rw [Bd.returns] at h; cases h)
  refine ⟨_, _, pre1201 _ (retI X1200 hx Bd.returns (hb hby d5_6) hr), hrun, hended, _, _, rfl, ?_, ⟨_, rfl⟩, hW, hsame.mono (by decide) (by decide)⟩
  show Q_checkIndex5_6 Z  h0 n0 _ T1200.heap _
  rw [e1200]
  exact ⟨rfl, N1200, rfl⟩
def Q_get4_6 (Z : State) (b1007 : Addr) (k51_1013 : ClassId) (b51_1013 : Addr) (b221_1016 : Addr) (p0 : Int32) (p1 : Int32) (p2 : Int32) (p3 : Int32) (k221_1016 : ClassId) (h0 : Heap) (n0 : Nat) (v : Option Value) (h : Heap) (L : List Loc) : Prop := v = some (.int p0) ∧ Fr n0 L ∧ h = h0
set_option maxRecDepth 65536 in
set_option maxHeartbeats 40000000 in
theorem rm_get4_6 (l : Launch) (Z : State) (a0 : Array Value) (hw : ∀ d ∈ tables_1, d.before a0 Z = true) (ws : List Jvm.Cond) (b1007 : Addr) (k51_1013 : ClassId) (b51_1013 : Addr) (b221_1016 : Addr) (p0 : Int32) (p1 : Int32) (p2 : Int32) (p3 : Int32) (k221_1016 : ClassId) (h0 : Heap) (n0 : Nat) (O0 : Old Z n0 h0) (Fi0 : Arv Z h0 b51_1013 k51_1013 (.array .int) (1 : Int32) [(.ref b221_1016)] .null) (Fi1 : Fld Z h0 b1007 "org/reachwatch/IntBlocks" "blocks" "[[I" (.ref b51_1013)) (Fi2 : Arv Z h0 b221_1016 k221_1016 .int (16 : Int32) [(.int p0), (.int p1), (.int p2), (.int p3), (.int (0 : Int32)), (.int (0 : Int32)), (.int (0 : Int32)), (.int (0 : Int32)), (.int (0 : Int32)), (.int (0 : Int32)), (.int (0 : Int32)), (.int (0 : Int32)), (.int (0 : Int32)), (.int (0 : Int32)), (.int (0 : Int32)), (.int (0 : Int32))] (.int (0 : Int32))) (Fi3 : Fld Z h0 b1007 "org/reachwatch/IntBlocks" "size" "I" (.int (4 : Int32))) :
    MetFree l (⟨"org/reachwatch/IntBlocks", "get", "(I)I"⟩ : MethodName) (head1 (Jvm.Cond.code (⟨"org/reachwatch/IntBlocks", "get", "(I)I"⟩ : MethodName) prog_56_method_3_code 2 (some .int) :: ws) ({ frames := 2, cells := 0, slots := 0, locals := 27 } : Room)) (fun a U => a = #[(.ref b1007), (.int (0 : Int32))] ∧ Z.Warmed39 U.vm ∧ U.heap = h0) (fun _ _ _ _ _ => True) (fun _ U o U' => ∃ v L, o = .returned v ∧ Q_get4_6 Z b1007 k51_1013 b51_1013 b221_1016 p0 p1 p2 p3 k221_1016 h0 n0 v U'.heap L ∧ FrameEnd U o U' L ({ frames := 2, cells := 0, slots := 0, locals := 27 } : Room).cells ({ frames := 2, cells := 0, slots := 0, locals := 27 } : Room).slots) := by
  refine MetFree.of_bodySF (plainFor_of_name pn_2) hisR ?_
  intro p e s m args below meth c s₁ Bd hml0 hP hK
  have W := fun {d : Jvm.Cond} (i : Nat) (q : tables_1[i]? = some d) => hw d (List.mem_of_getElem? q)
  obtain ⟨rfl, hZ, hh⟩ := hP
  have hx := Bd.exec
  have hby := Bd.bytes
  have hml : c.maxLocals = 2 := hml0
  have hown : s.vm.findClass "org/reachwatch/IntBlocks" = some m.cls := findClass_of_methodNamed Bd.named
  have hnm := (name_of_methodNamed Bd.named Bd.method).1
  have X0 : Stand p l e ({ frames := 2, cells := 0, slots := 0, locals := 27 } : Room) s m #[(.ref b1007), (.int (0 : Int32))] below meth c s₁ [] 0 0 := Stand.of_body Bd
  have e0 : s₁.heap = h0 := by rw [← hh, Bd.state]; rfl
  have N0 := Fr.nil n0
  have pre0 : ∀ t, Steps p.tables e below (s₁.setTop (mkF m 0 #[rv b1007, iv (0 : Int32)] [])) t → Steps p.tables e below (s₁.setTop (entryFrame m #[(.ref b1007), (.int (0 : Int32))] 2)) t := fun t k => castTop (ef_13 m b1007 (0 : Int32)) k
  have K0 : Keep h0 h0 [] := Keep.refl h0 []
  have pre1224 : ∀ t, Steps p.tables e below (s₁.setTop (mkF m 2 #[rv b1007, iv (0 : Int32)] [(.ref b1007), (.int (0 : Int32))])) t → Steps p.tables e below (s₁.setTop (entryFrame m #[(.ref b1007), (.int (0 : Int32))] 2)) t := fun t kt => by
    refine pre0 _ ?_
    show Steps p.tables e below (s₁.setTop (mkF m 0 #[rv b1007, iv (0 : Int32)] [])) _
    refine XS.iloadN X0.here hx rfl (hb hby d4_0) rfl ?_
    show Steps p.tables e below (s₁.setTop (mkF m 1 #[rv b1007, iv (0 : Int32)] [(.int (0 : Int32))])) _
    refine XS.aloadN X0.here hx rfl (hb hby d4_1) rfl rfl ?_
    exact kt
  obtain ⟨T1225, X1225, e1225, st1225⟩ := getF X0 hx hZ hown (host := "") (Or.inl (W 18 rfl)) Via.refl e0 Fi3 (g := (mkF m 2 #[rv b1007, iv (0 : Int32)] [(.ref b1007), (.int (0 : Int32))])) rfl rfl (hb hby d4_2)
  have pre1226 : ∀ t, Steps p.tables e below (T1225.setTop (mkF m 5 #[rv b1007, iv (0 : Int32)] [(.int (4 : Int32)), (.int (0 : Int32))])) t → Steps p.tables e below (s₁.setTop (entryFrame m #[(.ref b1007), (.int (0 : Int32))] 2)) t := fun t kt => pre1224 _ (st1225 _ kt)
  obtain ⟨_, _, ⟨T1227, L1227, k1227, n1227⟩, -, X1227, ⟨Lc1227, hQ1227, l1227, y1227, z1227⟩, st1227⟩ := Jvm.LawKit.callS X1225 hx (y := (⟨"java/util/Objects", "checkIndex", "(II)I"⟩ : MethodName)) hown (mvT hZ (W 29 rfl)) (mvT hZ (W 30 rfl)) (mvT hZ (W 31 rfl)) (mvT hZ (W 32 rfl)) (by decide) (backOf (W := 0) (rm_checkIndex5_6 l Z a0 hw [] h0 n0 O0) hZ (W 32 rfl) (W 31 rfl) (by decide) (by decide)) (g := (mkF m 5 #[rv b1007, iv (0 : Int32)] [(.int (4 : Int32)), (.int (0 : Int32))])) rfl (by rw [hml]; rfl) (argsL := [(.int (0 : Int32)), (.int (4 : Int32))]) (rest := []) (lenOf pd_12 rfl) rfl (by show 2 * 0 + _ ≤ _; exact Nat.le_of_eq rfl) (hb hby d4_5) (fun _ _ => ⟨rfl, e1225, (by decide : 0 + 0 ≤ _), (by decide : 0 + 0 ≤ _)⟩)
  dsimp only [Pt.U, Pt.locs, Pt.cells, Pt.slots] at X1227 l1227 y1227 z1227 st1227 hQ1227
  replace l1227 := l1227.symm
  replace y1227 : 0 = k1227 := y1227.symm
  replace z1227 : 0 = n1227 := z1227.symm
  subst l1227 y1227 z1227
  obtain ⟨rfl, M1227, e1227⟩ := hQ1227
  have N1227 := Fr.app N0 M1227
  have pre1228 : ∀ t, Steps p.tables e below (T1227.setTop (mkF m 8 #[rv b1007, iv (0 : Int32)] [(.int (0 : Int32))])) t → Steps p.tables e below (s₁.setTop (entryFrame m #[(.ref b1007), (.int (0 : Int32))] 2)) t := fun t kt => pre1226 _ (st1227 _ kt)
  have pre1229 : ∀ t, Steps p.tables e below (T1227.setTop (mkF m 10 #[rv b1007, iv (0 : Int32)] [(.ref b1007)])) t → Steps p.tables e below (s₁.setTop (entryFrame m #[(.ref b1007), (.int (0 : Int32))] 2)) t := fun t kt => by
    refine pre1228 _ ?_
    show Steps p.tables e below (T1227.setTop (mkF m 8 #[rv b1007, iv (0 : Int32)] [(.int (0 : Int32))])) _
    refine XS.pop X1227.here hx rfl (hb hby d4_8) rfl rfl ?_
    show Steps p.tables e below (T1227.setTop (mkF m 9 #[rv b1007, iv (0 : Int32)] [])) _
    refine XS.aloadN X1227.here hx rfl (hb hby d4_9) rfl rfl ?_
    exact kt
  obtain ⟨T1230, X1230, e1230, st1230⟩ := getF X1227 hx hZ hown (host := "") (Or.inl (W 11 rfl)) Via.refl e1227 Fi1 (g := (mkF m 10 #[rv b1007, iv (0 : Int32)] [(.ref b1007)])) rfl rfl (hb hby d4_10)
  have pre1231 : ∀ t, Steps p.tables e below (T1230.setTop (mkF m 13 #[rv b1007, iv (0 : Int32)] [(.ref b51_1013)])) t → Steps p.tables e below (s₁.setTop (entryFrame m #[(.ref b1007), (.int (0 : Int32))] 2)) t := fun t kt => pre1229 _ (st1230 _ kt)
  have pre1233 : ∀ t, Steps p.tables e below (T1230.setTop (mkF m 17 #[rv b1007, iv (0 : Int32)] [(.int (0 : Int32)), (.ref b51_1013)])) t → Steps p.tables e below (s₁.setTop (entryFrame m #[(.ref b1007), (.int (0 : Int32))] 2)) t := fun t kt => by
    refine pre1231 _ ?_
    show Steps p.tables e below (T1230.setTop (mkF m 13 #[rv b1007, iv (0 : Int32)] [(.ref b51_1013)])) _
    refine XS.iloadN X1230.here hx rfl (hb hby d4_13) rfl ?_
    show Steps p.tables e below (T1230.setTop (mkF m 14 #[rv b1007, iv (0 : Int32)] [(.int (0 : Int32)), (.ref b51_1013)])) _
    refine X1230.ldcInt hx hown (mvT hZ (W 20 rfl)) (g := (mkF m 14 #[rv b1007, iv (0 : Int32)] [(.int (0 : Int32)), (.ref b51_1013)])) rfl (hb hby d4_14) _ ?_
    show Steps p.tables e below (T1230.setTop (mkF m 16 #[rv b1007, iv (0 : Int32)] [(.int (65536 : Int32)), (.int (0 : Int32)), (.ref b51_1013)])) _
    refine XS.idiv X1230.here hx rfl (hb hby d4_16) rfl (by decide) ?_
    show  Steps p.tables e below (T1230.setTop (mkF m 17 #[rv b1007, iv (0 : Int32)] [(.int ((0 : Int32) / (65536 : Int32))), (.ref b51_1013)])) _
    rw [(by decide : (((0 : Int32) / (65536 : Int32)) : Int32) = (0 : Int32))]
    exact kt
  obtain ⟨c1232, Ar1232, q1232, S1232, M1232, H1232, G1232⟩ := id Fi0
  have i1232 : ¬ ((0 : Int32) < 0 ∨ c1232.slots.size ≤ ((0 : Int32)).toNatClampNeg) := inb_of S1232 ⟨by decide, by decide⟩
  have t1232 : c1232.slots[((0 : Int32)).toNatClampNeg]? = some (.ref b221_1016) := Has.at H1232 i1232 rfl
  have pre1235 : ∀ t, Steps p.tables e below (T1230.setTop (mkF m 22 #[rv b1007, iv (0 : Int32)] [(.int (0 : Int32)), (.ref b221_1016)])) t → Steps p.tables e below (s₁.setTop (entryFrame m #[(.ref b1007), (.int (0 : Int32))] 2)) t := fun t kt => by
    refine pre1233 _ ?_
    show Steps p.tables e below (T1230.setTop (mkF m 17 #[rv b1007, iv (0 : Int32)] [(.int (0 : Int32)), (.ref b51_1013)])) _
    refine X1230.aaload hx (j := (0 : Int32)) (v := (.ref b221_1016)) (by rw [e1230]; exact Ar1232.1) (State.isArrayOf_alike hZ.alike Ar1232.2.1) rfl Ar1232.2.2 i1232 t1232 (g := (mkF m 17 #[rv b1007, iv (0 : Int32)] [(.int (0 : Int32)), (.ref b51_1013)])) rfl rfl (hb hby d4_17) _ ?_
    show Steps p.tables e below (T1230.setTop (mkF m 18 #[rv b1007, iv (0 : Int32)] [(.ref b221_1016)])) _
    refine XS.iloadN X1230.here hx rfl (hb hby d4_18) rfl ?_
    show Steps p.tables e below (T1230.setTop (mkF m 19 #[rv b1007, iv (0 : Int32)] [(.int (0 : Int32)), (.ref b221_1016)])) _
    refine X1230.ldcInt hx hown (mvT hZ (W 20 rfl)) (g := (mkF m 19 #[rv b1007, iv (0 : Int32)] [(.int (0 : Int32)), (.ref b221_1016)])) rfl (hb hby d4_19) _ ?_
    show Steps p.tables e below (T1230.setTop (mkF m 21 #[rv b1007, iv (0 : Int32)] [(.int (65536 : Int32)), (.int (0 : Int32)), (.ref b221_1016)])) _
    refine XS.irem X1230.here hx rfl (hb hby d4_21) rfl (by decide) ?_
    show  Steps p.tables e below (T1230.setTop (mkF m 22 #[rv b1007, iv (0 : Int32)] [(.int ((0 : Int32) - ((0 : Int32) / (65536 : Int32)) * (65536 : Int32))), (.ref b221_1016)])) _
    rw [(by decide : (((0 : Int32) - ((0 : Int32) / (65536 : Int32)) * (65536 : Int32)) : Int32) = (0 : Int32))]
    exact kt
  obtain ⟨c1234, Ar1234, q1234, S1234, M1234, H1234, G1234⟩ := id Fi2
  have i1234 : ¬ ((0 : Int32) < 0 ∨ c1234.slots.size ≤ ((0 : Int32)).toNatClampNeg) := inb_of S1234 ⟨by decide, by decide⟩
  have t1234 : c1234.slots[((0 : Int32)).toNatClampNeg]? = some (.int p0) := Has.at H1234 i1234 rfl
  have pre1236 : ∀ t, Steps p.tables e below (T1230.setTop (mkF m 23 #[rv b1007, iv (0 : Int32)] [(.int p0)])) t → Steps p.tables e below (s₁.setTop (entryFrame m #[(.ref b1007), (.int (0 : Int32))] 2)) t := fun t kt => by
    refine pre1235 _ ?_
    show Steps p.tables e below (T1230.setTop (mkF m 22 #[rv b1007, iv (0 : Int32)] [(.int (0 : Int32)), (.ref b221_1016)])) _
    refine X1230.iaload hx (j := (0 : Int32)) (v := (.int p0)) (by rw [e1230]; exact Ar1234.1) (State.isArrayOf_alike hZ.alike Ar1234.2.1) Ar1234.2.2 i1234 t1234 (g := (mkF m 22 #[rv b1007, iv (0 : Int32)] [(.int (0 : Int32)), (.ref b221_1016)])) rfl rfl (hb hby d4_22) _ ?_
    exact kt
  obtain ⟨fs, hr, hrun, hended, hW, hsame⟩ := X1230.leave (v := some (.int p0)) (fun h => by rw [Bd.returns] at h; cases h)
  refine ⟨_, _, pre1236 _ (retI X1230 hx Bd.returns (hb hby d4_23) hr), hrun, hended, _, _, rfl, ?_, ⟨_, rfl⟩, hW, hsame.mono (by decide) (by decide)⟩
  show Q_get4_6 Z b1007 k51_1013 b51_1013 b221_1016 p0 p1 p2 p3 k221_1016 h0 n0 _ T1230.heap _
  rw [e1230]
  exact ⟨rfl, N1227, rfl⟩
def Q_checkIndex6_7 (Z : State)  (h0 : Heap) (n0 : Nat) (v : Option Value) (h : Heap) (L : List Loc) : Prop := v = some (.int (3 : Int32)) ∧ Fr n0 L ∧ h = h0
set_option maxRecDepth 65536 in
set_option maxHeartbeats 40000000 in
theorem rm_checkIndex6_7 (l : Launch) (Z : State) (a0 : Array Value) (hw : ∀ d ∈ tables_1, d.before a0 Z = true) (ws : List Jvm.Cond)  (h0 : Heap) (n0 : Nat) (O0 : Old Z n0 h0) :
    MetFree l (⟨"jdk/internal/util/Preconditions", "checkIndex", "(IILjava/util/function/BiFunction;)I"⟩ : MethodName) (head1 (Jvm.Cond.code (⟨"jdk/internal/util/Preconditions", "checkIndex", "(IILjava/util/function/BiFunction;)I"⟩ : MethodName) jdk_41_method_11_code 3 (some .int) :: ws) ({ frames := 0, cells := 0, slots := 0, locals := 0 } : Room)) (fun a U => a = #[(.int (3 : Int32)), (.int (4 : Int32)), .null] ∧ Z.Warmed39 U.vm ∧ U.heap = h0) (fun _ _ _ _ _ => True) (fun _ U o U' => ∃ v L, o = .returned v ∧ Q_checkIndex6_7 Z  h0 n0 v U'.heap L ∧ FrameEnd U o U' L ({ frames := 0, cells := 0, slots := 0, locals := 0 } : Room).cells ({ frames := 0, cells := 0, slots := 0, locals := 0 } : Room).slots) := by
  refine MetFree.of_bodySF (plainFor_of_name pn_7) hisR ?_
  intro p e s m args below meth c s₁ Bd hml0 hP hK
  have W := fun {d : Jvm.Cond} (i : Nat) (q : tables_1[i]? = some d) => hw d (List.mem_of_getElem? q)
  obtain ⟨rfl, hZ, hh⟩ := hP
  have hx := Bd.exec
  have hby := Bd.bytes
  have hml : c.maxLocals = 3 := hml0
  have hown : s.vm.findClass "jdk/internal/util/Preconditions" = some m.cls := findClass_of_methodNamed Bd.named
  have hnm := (name_of_methodNamed Bd.named Bd.method).1
  have X0 : Stand p l e ({ frames := 0, cells := 0, slots := 0, locals := 0 } : Room) s m #[(.int (3 : Int32)), (.int (4 : Int32)), .null] below meth c s₁ [] 0 0 := Stand.of_body Bd
  have e0 : s₁.heap = h0 := by rw [← hh, Bd.state]; rfl
  have N0 := Fr.nil n0
  have pre0 : ∀ t, Steps p.tables e below (s₁.setTop (mkF m 0 #[iv (3 : Int32), iv (4 : Int32), .val .null] [])) t → Steps p.tables e below (s₁.setTop (entryFrame m #[(.int (3 : Int32)), (.int (4 : Int32)), .null] 3)) t := fun t k => castTop (ef_8 m (3 : Int32) (4 : Int32)) k
  have K0 : Keep h0 h0 [] := Keep.refl h0 []
  have pre1248 : ∀ t, Steps p.tables e below (s₁.setTop (mkF m 17 #[iv (3 : Int32), iv (4 : Int32), .val .null] [(.int (3 : Int32))])) t → Steps p.tables e below (s₁.setTop (entryFrame m #[(.int (3 : Int32)), (.int (4 : Int32)), .null] 3)) t := fun t kt => by
    refine pre0 _ ?_
    show Steps p.tables e below (s₁.setTop (mkF m 0 #[iv (3 : Int32), iv (4 : Int32), .val .null] [])) _
    refine XS.iloadN X0.here hx rfl (hb hby d6_0) rfl ?_
    show Steps p.tables e below (s₁.setTop (mkF m 1 #[iv (3 : Int32), iv (4 : Int32), .val .null] [(.int (3 : Int32))])) _
    refine XS.ifNo X0.here hx rfl (hb hby d6_1) rfl (XT.i0_lt_f (by decide)) ?_
    show Steps p.tables e below (s₁.setTop (mkF m 4 #[iv (3 : Int32), iv (4 : Int32), .val .null] [])) _
    refine XS.iloadN X0.here hx rfl (hb hby d6_4) rfl ?_
    show Steps p.tables e below (s₁.setTop (mkF m 5 #[iv (3 : Int32), iv (4 : Int32), .val .null] [(.int (3 : Int32))])) _
    refine XS.iloadN X0.here hx rfl (hb hby d6_5) rfl ?_
    show Steps p.tables e below (s₁.setTop (mkF m 6 #[iv (3 : Int32), iv (4 : Int32), .val .null] [(.int (4 : Int32)), (.int (3 : Int32))])) _
    refine XS.icmpYes X0.here hx rfl (pc0 := 6) (pc' := 16) rfl (hb hby d6_6) rfl (XT.ii_lt_t (by decide)) (by decide) (by decide) ?_
    show Steps p.tables e below (s₁.setTop (mkF m 16 #[iv (3 : Int32), iv (4 : Int32), .val .null] [])) _
    refine XS.iloadN X0.here hx rfl (hb hby d6_16) rfl ?_
    exact kt
  obtain ⟨fs, hr, hrun, hended, hW, hsame⟩ := X0.leave (v := some (.int (3 : Int32))) (fun h => by rw [Bd.returns] at h; cases h)
  refine ⟨_, _, pre1248 _ (retI X0 hx Bd.returns (hb hby d6_17) hr), hrun, hended, _, _, rfl, ?_, ⟨_, rfl⟩, hW, hsame.mono (by decide) (by decide)⟩
  show Q_checkIndex6_7 Z  h0 n0 _ s₁.heap _
  rw [e0]
  exact ⟨rfl, N0, rfl⟩
def Q_checkIndex5_7 (Z : State)  (h0 : Heap) (n0 : Nat) (v : Option Value) (h : Heap) (L : List Loc) : Prop := v = some (.int (3 : Int32)) ∧ Fr n0 L ∧ h = h0
set_option maxRecDepth 65536 in
set_option maxHeartbeats 40000000 in
theorem rm_checkIndex5_7 (l : Launch) (Z : State) (a0 : Array Value) (hw : ∀ d ∈ tables_1, d.before a0 Z = true) (ws : List Jvm.Cond)  (h0 : Heap) (n0 : Nat) (O0 : Old Z n0 h0) :
    MetFree l (⟨"java/util/Objects", "checkIndex", "(II)I"⟩ : MethodName) (head1 (Jvm.Cond.code (⟨"java/util/Objects", "checkIndex", "(II)I"⟩ : MethodName) jdk_31_method_17_code 2 (some .int) :: ws) ({ frames := 1, cells := 0, slots := 0, locals := 14 } : Room)) (fun a U => a = #[(.int (3 : Int32)), (.int (4 : Int32))] ∧ Z.Warmed39 U.vm ∧ U.heap = h0) (fun _ _ _ _ _ => True) (fun _ U o U' => ∃ v L, o = .returned v ∧ Q_checkIndex5_7 Z  h0 n0 v U'.heap L ∧ FrameEnd U o U' L ({ frames := 1, cells := 0, slots := 0, locals := 14 } : Room).cells ({ frames := 1, cells := 0, slots := 0, locals := 14 } : Room).slots) := by
  refine MetFree.of_bodySF (plainFor_of_name pn_10) hisR ?_
  intro p e s m args below meth c s₁ Bd hml0 hP hK
  have W := fun {d : Jvm.Cond} (i : Nat) (q : tables_1[i]? = some d) => hw d (List.mem_of_getElem? q)
  obtain ⟨rfl, hZ, hh⟩ := hP
  have hx := Bd.exec
  have hby := Bd.bytes
  have hml : c.maxLocals = 2 := hml0
  have hown : s.vm.findClass "java/util/Objects" = some m.cls := findClass_of_methodNamed Bd.named
  have hnm := (name_of_methodNamed Bd.named Bd.method).1
  have X0 : Stand p l e ({ frames := 1, cells := 0, slots := 0, locals := 14 } : Room) s m #[(.int (3 : Int32)), (.int (4 : Int32))] below meth c s₁ [] 0 0 := Stand.of_body Bd
  have e0 : s₁.heap = h0 := by rw [← hh, Bd.state]; rfl
  have N0 := Fr.nil n0
  have pre0 : ∀ t, Steps p.tables e below (s₁.setTop (mkF m 0 #[iv (3 : Int32), iv (4 : Int32)] [])) t → Steps p.tables e below (s₁.setTop (entryFrame m #[(.int (3 : Int32)), (.int (4 : Int32))] 2)) t := fun t k => castTop (ef_11 m (3 : Int32) (4 : Int32)) k
  have K0 : Keep h0 h0 [] := Keep.refl h0 []
  have pre1253 : ∀ t, Steps p.tables e below (s₁.setTop (mkF m 3 #[iv (3 : Int32), iv (4 : Int32)] [.null, (.int (4 : Int32)), (.int (3 : Int32))])) t → Steps p.tables e below (s₁.setTop (entryFrame m #[(.int (3 : Int32)), (.int (4 : Int32))] 2)) t := fun t kt => by
    refine pre0 _ ?_
    show Steps p.tables e below (s₁.setTop (mkF m 0 #[iv (3 : Int32), iv (4 : Int32)] [])) _
    refine XS.iloadN X0.here hx rfl (hb hby d5_0) rfl ?_
    show Steps p.tables e below (s₁.setTop (mkF m 1 #[iv (3 : Int32), iv (4 : Int32)] [(.int (3 : Int32))])) _
    refine XS.iloadN X0.here hx rfl (hb hby d5_1) rfl ?_
    show Steps p.tables e below (s₁.setTop (mkF m 2 #[iv (3 : Int32), iv (4 : Int32)] [(.int (4 : Int32)), (.int (3 : Int32))])) _
    refine XS.aconstNull X0.here hx rfl (hb hby d5_2) ?_
    exact kt
  obtain ⟨_, _, ⟨T1254, L1254, k1254, n1254⟩, -, X1254, ⟨Lc1254, hQ1254, l1254, y1254, z1254⟩, st1254⟩ := Jvm.LawKit.callS X0 hx (y := (⟨"jdk/internal/util/Preconditions", "checkIndex", "(IILjava/util/function/BiFunction;)I"⟩ : MethodName)) hown (mvT hZ (W 33 rfl)) (mvT hZ (W 34 rfl)) (mvT hZ (W 35 rfl)) (mvT hZ (W 36 rfl)) (by decide) (backOf (W := 0) (rm_checkIndex6_7 l Z a0 hw [] h0 n0 O0) hZ (W 36 rfl) (W 35 rfl) (by decide) (by decide)) (g := (mkF m 3 #[iv (3 : Int32), iv (4 : Int32)] [.null, (.int (4 : Int32)), (.int (3 : Int32))])) rfl (by rw [hml]; rfl) (argsL := [(.int (3 : Int32)), (.int (4 : Int32)), .null]) (rest := []) (lenOf pd_9 rfl) rfl (by show 2 * 0 + _ ≤ _; exact Nat.le_of_eq rfl) (hb hby d5_3) (fun _ _ => ⟨rfl, e0, (by decide : 0 + 0 ≤ _), (by decide : 0 + 0 ≤ _)⟩)
  dsimp only [Pt.U, Pt.locs, Pt.cells, Pt.slots] at X1254 l1254 y1254 z1254 st1254 hQ1254
  replace l1254 := l1254.symm
  replace y1254 : 0 = k1254 := y1254.symm
  replace z1254 : 0 = n1254 := z1254.symm
  subst l1254 y1254 z1254
  obtain ⟨rfl, M1254, e1254⟩ := hQ1254
  have N1254 := Fr.app N0 M1254
  have pre1255 : ∀ t, Steps p.tables e below (T1254.setTop (mkF m 6 #[iv (3 : Int32), iv (4 : Int32)] [(.int (3 : Int32))])) t → Steps p.tables e below (s₁.setTop (entryFrame m #[(.int (3 : Int32)), (.int (4 : Int32))] 2)) t := fun t kt => pre1253 _ (st1254 _ kt)
  obtain ⟨fs, hr, hrun, hended, hW, hsame⟩ := X1254.leave (v := some (.int (3 : Int32))) (fun h => by rw [Bd.returns] at h; cases h)
  refine ⟨_, _, pre1255 _ (retI X1254 hx Bd.returns (hb hby d5_6) hr), hrun, hended, _, _, rfl, ?_, ⟨_, rfl⟩, hW, hsame.mono (by decide) (by decide)⟩
  show Q_checkIndex5_7 Z  h0 n0 _ T1254.heap _
  rw [e1254]
  exact ⟨rfl, N1254, rfl⟩
def Q_get4_7 (Z : State) (b1007 : Addr) (k51_1013 : ClassId) (b51_1013 : Addr) (b221_1016 : Addr) (p0 : Int32) (p1 : Int32) (p2 : Int32) (p3 : Int32) (k221_1016 : ClassId) (h0 : Heap) (n0 : Nat) (v : Option Value) (h : Heap) (L : List Loc) : Prop := v = some (.int p3) ∧ Fr n0 L ∧ h = h0
set_option maxRecDepth 65536 in
set_option maxHeartbeats 40000000 in
theorem rm_get4_7 (l : Launch) (Z : State) (a0 : Array Value) (hw : ∀ d ∈ tables_1, d.before a0 Z = true) (ws : List Jvm.Cond) (b1007 : Addr) (k51_1013 : ClassId) (b51_1013 : Addr) (b221_1016 : Addr) (p0 : Int32) (p1 : Int32) (p2 : Int32) (p3 : Int32) (k221_1016 : ClassId) (h0 : Heap) (n0 : Nat) (O0 : Old Z n0 h0) (Fi0 : Arv Z h0 b51_1013 k51_1013 (.array .int) (1 : Int32) [(.ref b221_1016)] .null) (Fi1 : Fld Z h0 b1007 "org/reachwatch/IntBlocks" "blocks" "[[I" (.ref b51_1013)) (Fi2 : Arv Z h0 b221_1016 k221_1016 .int (16 : Int32) [(.int p0), (.int p1), (.int p2), (.int p3), (.int (0 : Int32)), (.int (0 : Int32)), (.int (0 : Int32)), (.int (0 : Int32)), (.int (0 : Int32)), (.int (0 : Int32)), (.int (0 : Int32)), (.int (0 : Int32)), (.int (0 : Int32)), (.int (0 : Int32)), (.int (0 : Int32)), (.int (0 : Int32))] (.int (0 : Int32))) (Fi3 : Fld Z h0 b1007 "org/reachwatch/IntBlocks" "size" "I" (.int (4 : Int32))) :
    MetFree l (⟨"org/reachwatch/IntBlocks", "get", "(I)I"⟩ : MethodName) (head1 (Jvm.Cond.code (⟨"org/reachwatch/IntBlocks", "get", "(I)I"⟩ : MethodName) prog_56_method_3_code 2 (some .int) :: ws) ({ frames := 2, cells := 0, slots := 0, locals := 27 } : Room)) (fun a U => a = #[(.ref b1007), (.int (3 : Int32))] ∧ Z.Warmed39 U.vm ∧ U.heap = h0) (fun _ _ _ _ _ => True) (fun _ U o U' => ∃ v L, o = .returned v ∧ Q_get4_7 Z b1007 k51_1013 b51_1013 b221_1016 p0 p1 p2 p3 k221_1016 h0 n0 v U'.heap L ∧ FrameEnd U o U' L ({ frames := 2, cells := 0, slots := 0, locals := 27 } : Room).cells ({ frames := 2, cells := 0, slots := 0, locals := 27 } : Room).slots) := by
  refine MetFree.of_bodySF (plainFor_of_name pn_2) hisR ?_
  intro p e s m args below meth c s₁ Bd hml0 hP hK
  have W := fun {d : Jvm.Cond} (i : Nat) (q : tables_1[i]? = some d) => hw d (List.mem_of_getElem? q)
  obtain ⟨rfl, hZ, hh⟩ := hP
  have hx := Bd.exec
  have hby := Bd.bytes
  have hml : c.maxLocals = 2 := hml0
  have hown : s.vm.findClass "org/reachwatch/IntBlocks" = some m.cls := findClass_of_methodNamed Bd.named
  have hnm := (name_of_methodNamed Bd.named Bd.method).1
  have X0 : Stand p l e ({ frames := 2, cells := 0, slots := 0, locals := 27 } : Room) s m #[(.ref b1007), (.int (3 : Int32))] below meth c s₁ [] 0 0 := Stand.of_body Bd
  have e0 : s₁.heap = h0 := by rw [← hh, Bd.state]; rfl
  have N0 := Fr.nil n0
  have pre0 : ∀ t, Steps p.tables e below (s₁.setTop (mkF m 0 #[rv b1007, iv (3 : Int32)] [])) t → Steps p.tables e below (s₁.setTop (entryFrame m #[(.ref b1007), (.int (3 : Int32))] 2)) t := fun t k => castTop (ef_13 m b1007 (3 : Int32)) k
  have K0 : Keep h0 h0 [] := Keep.refl h0 []
  have pre1278 : ∀ t, Steps p.tables e below (s₁.setTop (mkF m 2 #[rv b1007, iv (3 : Int32)] [(.ref b1007), (.int (3 : Int32))])) t → Steps p.tables e below (s₁.setTop (entryFrame m #[(.ref b1007), (.int (3 : Int32))] 2)) t := fun t kt => by
    refine pre0 _ ?_
    show Steps p.tables e below (s₁.setTop (mkF m 0 #[rv b1007, iv (3 : Int32)] [])) _
    refine XS.iloadN X0.here hx rfl (hb hby d4_0) rfl ?_
    show Steps p.tables e below (s₁.setTop (mkF m 1 #[rv b1007, iv (3 : Int32)] [(.int (3 : Int32))])) _
    refine XS.aloadN X0.here hx rfl (hb hby d4_1) rfl rfl ?_
    exact kt
  obtain ⟨T1279, X1279, e1279, st1279⟩ := getF X0 hx hZ hown (host := "") (Or.inl (W 18 rfl)) Via.refl e0 Fi3 (g := (mkF m 2 #[rv b1007, iv (3 : Int32)] [(.ref b1007), (.int (3 : Int32))])) rfl rfl (hb hby d4_2)
  have pre1280 : ∀ t, Steps p.tables e below (T1279.setTop (mkF m 5 #[rv b1007, iv (3 : Int32)] [(.int (4 : Int32)), (.int (3 : Int32))])) t → Steps p.tables e below (s₁.setTop (entryFrame m #[(.ref b1007), (.int (3 : Int32))] 2)) t := fun t kt => pre1278 _ (st1279 _ kt)
  obtain ⟨_, _, ⟨T1281, L1281, k1281, n1281⟩, -, X1281, ⟨Lc1281, hQ1281, l1281, y1281, z1281⟩, st1281⟩ := Jvm.LawKit.callS X1279 hx (y := (⟨"java/util/Objects", "checkIndex", "(II)I"⟩ : MethodName)) hown (mvT hZ (W 29 rfl)) (mvT hZ (W 30 rfl)) (mvT hZ (W 31 rfl)) (mvT hZ (W 32 rfl)) (by decide) (backOf (W := 0) (rm_checkIndex5_7 l Z a0 hw [] h0 n0 O0) hZ (W 32 rfl) (W 31 rfl) (by decide) (by decide)) (g := (mkF m 5 #[rv b1007, iv (3 : Int32)] [(.int (4 : Int32)), (.int (3 : Int32))])) rfl (by rw [hml]; rfl) (argsL := [(.int (3 : Int32)), (.int (4 : Int32))]) (rest := []) (lenOf pd_12 rfl) rfl (by show 2 * 0 + _ ≤ _; exact Nat.le_of_eq rfl) (hb hby d4_5) (fun _ _ => ⟨rfl, e1279, (by decide : 0 + 0 ≤ _), (by decide : 0 + 0 ≤ _)⟩)
  dsimp only [Pt.U, Pt.locs, Pt.cells, Pt.slots] at X1281 l1281 y1281 z1281 st1281 hQ1281
  replace l1281 := l1281.symm
  replace y1281 : 0 = k1281 := y1281.symm
  replace z1281 : 0 = n1281 := z1281.symm
  subst l1281 y1281 z1281
  obtain ⟨rfl, M1281, e1281⟩ := hQ1281
  have N1281 := Fr.app N0 M1281
  have pre1282 : ∀ t, Steps p.tables e below (T1281.setTop (mkF m 8 #[rv b1007, iv (3 : Int32)] [(.int (3 : Int32))])) t → Steps p.tables e below (s₁.setTop (entryFrame m #[(.ref b1007), (.int (3 : Int32))] 2)) t := fun t kt => pre1280 _ (st1281 _ kt)
  have pre1283 : ∀ t, Steps p.tables e below (T1281.setTop (mkF m 10 #[rv b1007, iv (3 : Int32)] [(.ref b1007)])) t → Steps p.tables e below (s₁.setTop (entryFrame m #[(.ref b1007), (.int (3 : Int32))] 2)) t := fun t kt => by
    refine pre1282 _ ?_
    show Steps p.tables e below (T1281.setTop (mkF m 8 #[rv b1007, iv (3 : Int32)] [(.int (3 : Int32))])) _
    refine XS.pop X1281.here hx rfl (hb hby d4_8) rfl rfl ?_
    show Steps p.tables e below (T1281.setTop (mkF m 9 #[rv b1007, iv (3 : Int32)] [])) _
    refine XS.aloadN X1281.here hx rfl (hb hby d4_9) rfl rfl ?_
    exact kt
  obtain ⟨T1284, X1284, e1284, st1284⟩ := getF X1281 hx hZ hown (host := "") (Or.inl (W 11 rfl)) Via.refl e1281 Fi1 (g := (mkF m 10 #[rv b1007, iv (3 : Int32)] [(.ref b1007)])) rfl rfl (hb hby d4_10)
  have pre1285 : ∀ t, Steps p.tables e below (T1284.setTop (mkF m 13 #[rv b1007, iv (3 : Int32)] [(.ref b51_1013)])) t → Steps p.tables e below (s₁.setTop (entryFrame m #[(.ref b1007), (.int (3 : Int32))] 2)) t := fun t kt => pre1283 _ (st1284 _ kt)
  have pre1287 : ∀ t, Steps p.tables e below (T1284.setTop (mkF m 17 #[rv b1007, iv (3 : Int32)] [(.int (0 : Int32)), (.ref b51_1013)])) t → Steps p.tables e below (s₁.setTop (entryFrame m #[(.ref b1007), (.int (3 : Int32))] 2)) t := fun t kt => by
    refine pre1285 _ ?_
    show Steps p.tables e below (T1284.setTop (mkF m 13 #[rv b1007, iv (3 : Int32)] [(.ref b51_1013)])) _
    refine XS.iloadN X1284.here hx rfl (hb hby d4_13) rfl ?_
    show Steps p.tables e below (T1284.setTop (mkF m 14 #[rv b1007, iv (3 : Int32)] [(.int (3 : Int32)), (.ref b51_1013)])) _
    refine X1284.ldcInt hx hown (mvT hZ (W 20 rfl)) (g := (mkF m 14 #[rv b1007, iv (3 : Int32)] [(.int (3 : Int32)), (.ref b51_1013)])) rfl (hb hby d4_14) _ ?_
    show Steps p.tables e below (T1284.setTop (mkF m 16 #[rv b1007, iv (3 : Int32)] [(.int (65536 : Int32)), (.int (3 : Int32)), (.ref b51_1013)])) _
    refine XS.idiv X1284.here hx rfl (hb hby d4_16) rfl (by decide) ?_
    show  Steps p.tables e below (T1284.setTop (mkF m 17 #[rv b1007, iv (3 : Int32)] [(.int ((3 : Int32) / (65536 : Int32))), (.ref b51_1013)])) _
    rw [(by decide : (((3 : Int32) / (65536 : Int32)) : Int32) = (0 : Int32))]
    exact kt
  obtain ⟨c1286, Ar1286, q1286, S1286, M1286, H1286, G1286⟩ := id Fi0
  have i1286 : ¬ ((0 : Int32) < 0 ∨ c1286.slots.size ≤ ((0 : Int32)).toNatClampNeg) := inb_of S1286 ⟨by decide, by decide⟩
  have t1286 : c1286.slots[((0 : Int32)).toNatClampNeg]? = some (.ref b221_1016) := Has.at H1286 i1286 rfl
  have pre1289 : ∀ t, Steps p.tables e below (T1284.setTop (mkF m 22 #[rv b1007, iv (3 : Int32)] [(.int (3 : Int32)), (.ref b221_1016)])) t → Steps p.tables e below (s₁.setTop (entryFrame m #[(.ref b1007), (.int (3 : Int32))] 2)) t := fun t kt => by
    refine pre1287 _ ?_
    show Steps p.tables e below (T1284.setTop (mkF m 17 #[rv b1007, iv (3 : Int32)] [(.int (0 : Int32)), (.ref b51_1013)])) _
    refine X1284.aaload hx (j := (0 : Int32)) (v := (.ref b221_1016)) (by rw [e1284]; exact Ar1286.1) (State.isArrayOf_alike hZ.alike Ar1286.2.1) rfl Ar1286.2.2 i1286 t1286 (g := (mkF m 17 #[rv b1007, iv (3 : Int32)] [(.int (0 : Int32)), (.ref b51_1013)])) rfl rfl (hb hby d4_17) _ ?_
    show Steps p.tables e below (T1284.setTop (mkF m 18 #[rv b1007, iv (3 : Int32)] [(.ref b221_1016)])) _
    refine XS.iloadN X1284.here hx rfl (hb hby d4_18) rfl ?_
    show Steps p.tables e below (T1284.setTop (mkF m 19 #[rv b1007, iv (3 : Int32)] [(.int (3 : Int32)), (.ref b221_1016)])) _
    refine X1284.ldcInt hx hown (mvT hZ (W 20 rfl)) (g := (mkF m 19 #[rv b1007, iv (3 : Int32)] [(.int (3 : Int32)), (.ref b221_1016)])) rfl (hb hby d4_19) _ ?_
    show Steps p.tables e below (T1284.setTop (mkF m 21 #[rv b1007, iv (3 : Int32)] [(.int (65536 : Int32)), (.int (3 : Int32)), (.ref b221_1016)])) _
    refine XS.irem X1284.here hx rfl (hb hby d4_21) rfl (by decide) ?_
    show  Steps p.tables e below (T1284.setTop (mkF m 22 #[rv b1007, iv (3 : Int32)] [(.int ((3 : Int32) - ((3 : Int32) / (65536 : Int32)) * (65536 : Int32))), (.ref b221_1016)])) _
    rw [(by decide : (((3 : Int32) - ((3 : Int32) / (65536 : Int32)) * (65536 : Int32)) : Int32) = (3 : Int32))]
    exact kt
  obtain ⟨c1288, Ar1288, q1288, S1288, M1288, H1288, G1288⟩ := id Fi2
  have i1288 : ¬ ((3 : Int32) < 0 ∨ c1288.slots.size ≤ ((3 : Int32)).toNatClampNeg) := inb_of S1288 ⟨by decide, by decide⟩
  have t1288 : c1288.slots[((3 : Int32)).toNatClampNeg]? = some (.int p3) := Has.at H1288 i1288 rfl
  have pre1290 : ∀ t, Steps p.tables e below (T1284.setTop (mkF m 23 #[rv b1007, iv (3 : Int32)] [(.int p3)])) t → Steps p.tables e below (s₁.setTop (entryFrame m #[(.ref b1007), (.int (3 : Int32))] 2)) t := fun t kt => by
    refine pre1289 _ ?_
    show Steps p.tables e below (T1284.setTop (mkF m 22 #[rv b1007, iv (3 : Int32)] [(.int (3 : Int32)), (.ref b221_1016)])) _
    refine X1284.iaload hx (j := (3 : Int32)) (v := (.int p3)) (by rw [e1284]; exact Ar1288.1) (State.isArrayOf_alike hZ.alike Ar1288.2.1) Ar1288.2.2 i1288 t1288 (g := (mkF m 22 #[rv b1007, iv (3 : Int32)] [(.int (3 : Int32)), (.ref b221_1016)])) rfl rfl (hb hby d4_22) _ ?_
    exact kt
  obtain ⟨fs, hr, hrun, hended, hW, hsame⟩ := X1284.leave (v := some (.int p3)) (fun h => by rw [Bd.returns] at h; cases h)
  refine ⟨_, _, pre1290 _ (retI X1284 hx Bd.returns (hb hby d4_23) hr), hrun, hended, _, _, rfl, ?_, ⟨_, rfl⟩, hW, hsame.mono (by decide) (by decide)⟩
  show Q_get4_7 Z b1007 k51_1013 b51_1013 b221_1016 p0 p1 p2 p3 k221_1016 h0 n0 _ T1284.heap _
  rw [e1284]
  exact ⟨rfl, N1281, rfl⟩
theorem d7_20 : decode method_3_code 20 = .ok (.iload 4, 2) := by decide +kernel
theorem d7_22 : decode method_3_code 22 = .ok (.ireturn, 1) := by decide +kernel
def Q_ref7_3 (Z : State) (p0 : Int32) (p1 : Int32) (p2 : Int32) (p3 : Int32) (h0 : Heap) (n0 : Nat) (v : Option Value) (h : Heap) (L : List Loc) : Prop := v = some (.int p3) ∧ Fr n0 L ∧ h = h0
set_option maxRecDepth 65536 in
set_option maxHeartbeats 40000000 in
theorem rm_ref7_3 (l : Launch) (Z : State) (a0 : Array Value) (hw : ∀ d ∈ tables_1, d.before a0 Z = true) (ws : List Jvm.Cond) (p0 : Int32) (p1 : Int32) (p2 : Int32) (p3 : Int32) (h0 : Heap) (n0 : Nat) (O0 : Old Z n0 h0) :
    MetFree l (⟨"org/reachwatch/IntBlocksGetPinLaw", "ref", "(IIIII)I"⟩ : MethodName) (head1 (Jvm.Cond.code (⟨"org/reachwatch/IntBlocksGetPinLaw", "ref", "(IIIII)I"⟩ : MethodName) method_3_code 5 (some .int) :: ws) ({ frames := 0, cells := 0, slots := 0, locals := 0 } : Room)) (fun a U => a = #[(.int (3 : Int32)), (.int p0), (.int p1), (.int p2), (.int p3)] ∧ Z.Warmed39 U.vm ∧ U.heap = h0) (fun _ _ _ _ _ => True) (fun _ U o U' => ∃ v L, o = .returned v ∧ Q_ref7_3 Z p0 p1 p2 p3 h0 n0 v U'.heap L ∧ FrameEnd U o U' L ({ frames := 0, cells := 0, slots := 0, locals := 0 } : Room).cells ({ frames := 0, cells := 0, slots := 0, locals := 0 } : Room).slots) := by
  refine MetFree.of_bodySF (plainFor_of_name pn_0) hisR ?_
  intro p e s m args below meth c s₁ Bd hml0 hP hK
  have W := fun {d : Jvm.Cond} (i : Nat) (q : tables_1[i]? = some d) => hw d (List.mem_of_getElem? q)
  obtain ⟨rfl, hZ, hh⟩ := hP
  have hx := Bd.exec
  have hby := Bd.bytes
  have hml : c.maxLocals = 5 := hml0
  have hown : s.vm.findClass "org/reachwatch/IntBlocksGetPinLaw" = some m.cls := findClass_of_methodNamed Bd.named
  have hnm := (name_of_methodNamed Bd.named Bd.method).1
  have X0 : Stand p l e ({ frames := 0, cells := 0, slots := 0, locals := 0 } : Room) s m #[(.int (3 : Int32)), (.int p0), (.int p1), (.int p2), (.int p3)] below meth c s₁ [] 0 0 := Stand.of_body Bd
  have e0 : s₁.heap = h0 := by rw [← hh, Bd.state]; rfl
  have N0 := Fr.nil n0
  have pre0 : ∀ t, Steps p.tables e below (s₁.setTop (mkF m 0 #[iv (3 : Int32), iv p0, iv p1, iv p2, iv p3] [])) t → Steps p.tables e below (s₁.setTop (entryFrame m #[(.int (3 : Int32)), (.int p0), (.int p1), (.int p2), (.int p3)] 5)) t := fun t k => castTop (ef_15 m (3 : Int32) p0 p1 p2 p3) k
  have K0 : Keep h0 h0 [] := Keep.refl h0 []
  have pre1299 : ∀ t, Steps p.tables e below (s₁.setTop (mkF m 22 #[iv (3 : Int32), iv p0, iv p1, iv p2, iv p3] [(.int p3)])) t → Steps p.tables e below (s₁.setTop (entryFrame m #[(.int (3 : Int32)), (.int p0), (.int p1), (.int p2), (.int p3)] 5)) t := fun t kt => by
    refine pre0 _ ?_
    show Steps p.tables e below (s₁.setTop (mkF m 0 #[iv (3 : Int32), iv p0, iv p1, iv p2, iv p3] [])) _
    refine XS.iloadN X0.here hx rfl (hb hby d7_0) rfl ?_
    show Steps p.tables e below (s₁.setTop (mkF m 1 #[iv (3 : Int32), iv p0, iv p1, iv p2, iv p3] [(.int (3 : Int32))])) _
    refine XS.ifYes X0.here hx rfl (pc0 := 1) (pc' := 6) rfl (hb hby d7_1) rfl (XT.i0_ne_t (by decide)) (by decide) (by decide) ?_
    show Steps p.tables e below (s₁.setTop (mkF m 6 #[iv (3 : Int32), iv p0, iv p1, iv p2, iv p3] [])) _
    refine XS.iloadN X0.here hx rfl (hb hby d7_6) rfl ?_
    show Steps p.tables e below (s₁.setTop (mkF m 7 #[iv (3 : Int32), iv p0, iv p1, iv p2, iv p3] [(.int (3 : Int32))])) _
    refine XS.iconst X0.here hx rfl (hb hby d7_7) ?_
    show Steps p.tables e below (s₁.setTop (mkF m 8 #[iv (3 : Int32), iv p0, iv p1, iv p2, iv p3] [(.int (1 : Int32)), (.int (3 : Int32))])) _
    refine XS.icmpYes X0.here hx rfl (pc0 := 8) (pc' := 13) rfl (hb hby d7_8) rfl (XT.ii_ne_t (by decide)) (by decide) (by decide) ?_
    show Steps p.tables e below (s₁.setTop (mkF m 13 #[iv (3 : Int32), iv p0, iv p1, iv p2, iv p3] [])) _
    refine XS.iloadN X0.here hx rfl (hb hby d7_13) rfl ?_
    show Steps p.tables e below (s₁.setTop (mkF m 14 #[iv (3 : Int32), iv p0, iv p1, iv p2, iv p3] [(.int (3 : Int32))])) _
    refine XS.iconst X0.here hx rfl (hb hby d7_14) ?_
    show Steps p.tables e below (s₁.setTop (mkF m 15 #[iv (3 : Int32), iv p0, iv p1, iv p2, iv p3] [(.int (2 : Int32)), (.int (3 : Int32))])) _
    refine XS.icmpYes X0.here hx rfl (pc0 := 15) (pc' := 20) rfl (hb hby d7_15) rfl (XT.ii_ne_t (by decide)) (by decide) (by decide) ?_
    show Steps p.tables e below (s₁.setTop (mkF m 20 #[iv (3 : Int32), iv p0, iv p1, iv p2, iv p3] [])) _
    refine XS.iload X0.here hx rfl (hb hby d7_20) rfl ?_
    exact kt
  obtain ⟨fs, hr, hrun, hended, hW, hsame⟩ := X0.leave (v := some (.int p3)) (fun h => by rw [Bd.returns] at h; cases h)
  refine ⟨_, _, pre1299 _ (retI X0 hx Bd.returns (hb hby d7_22) hr), hrun, hended, _, _, rfl, ?_, ⟨_, rfl⟩, hW, hsame.mono (by decide) (by decide)⟩
  show Q_ref7_3 Z p0 p1 p2 p3 h0 n0 _ s₁.heap _
  rw [e0]
  exact ⟨rfl, N0, rfl⟩
def Q_checkIndex6_8 (Z : State)  (h0 : Heap) (n0 : Nat) (v : Option Value) (h : Heap) (L : List Loc) : Prop := v = some (.int (1 : Int32)) ∧ Fr n0 L ∧ h = h0
set_option maxRecDepth 65536 in
set_option maxHeartbeats 40000000 in
theorem rm_checkIndex6_8 (l : Launch) (Z : State) (a0 : Array Value) (hw : ∀ d ∈ tables_1, d.before a0 Z = true) (ws : List Jvm.Cond)  (h0 : Heap) (n0 : Nat) (O0 : Old Z n0 h0) :
    MetFree l (⟨"jdk/internal/util/Preconditions", "checkIndex", "(IILjava/util/function/BiFunction;)I"⟩ : MethodName) (head1 (Jvm.Cond.code (⟨"jdk/internal/util/Preconditions", "checkIndex", "(IILjava/util/function/BiFunction;)I"⟩ : MethodName) jdk_41_method_11_code 3 (some .int) :: ws) ({ frames := 0, cells := 0, slots := 0, locals := 0 } : Room)) (fun a U => a = #[(.int (1 : Int32)), (.int (4 : Int32)), .null] ∧ Z.Warmed39 U.vm ∧ U.heap = h0) (fun _ _ _ _ _ => True) (fun _ U o U' => ∃ v L, o = .returned v ∧ Q_checkIndex6_8 Z  h0 n0 v U'.heap L ∧ FrameEnd U o U' L ({ frames := 0, cells := 0, slots := 0, locals := 0 } : Room).cells ({ frames := 0, cells := 0, slots := 0, locals := 0 } : Room).slots) := by
  refine MetFree.of_bodySF (plainFor_of_name pn_7) hisR ?_
  intro p e s m args below meth c s₁ Bd hml0 hP hK
  have W := fun {d : Jvm.Cond} (i : Nat) (q : tables_1[i]? = some d) => hw d (List.mem_of_getElem? q)
  obtain ⟨rfl, hZ, hh⟩ := hP
  have hx := Bd.exec
  have hby := Bd.bytes
  have hml : c.maxLocals = 3 := hml0
  have hown : s.vm.findClass "jdk/internal/util/Preconditions" = some m.cls := findClass_of_methodNamed Bd.named
  have hnm := (name_of_methodNamed Bd.named Bd.method).1
  have X0 : Stand p l e ({ frames := 0, cells := 0, slots := 0, locals := 0 } : Room) s m #[(.int (1 : Int32)), (.int (4 : Int32)), .null] below meth c s₁ [] 0 0 := Stand.of_body Bd
  have e0 : s₁.heap = h0 := by rw [← hh, Bd.state]; rfl
  have N0 := Fr.nil n0
  have pre0 : ∀ t, Steps p.tables e below (s₁.setTop (mkF m 0 #[iv (1 : Int32), iv (4 : Int32), .val .null] [])) t → Steps p.tables e below (s₁.setTop (entryFrame m #[(.int (1 : Int32)), (.int (4 : Int32)), .null] 3)) t := fun t k => castTop (ef_8 m (1 : Int32) (4 : Int32)) k
  have K0 : Keep h0 h0 [] := Keep.refl h0 []
  have pre1312 : ∀ t, Steps p.tables e below (s₁.setTop (mkF m 17 #[iv (1 : Int32), iv (4 : Int32), .val .null] [(.int (1 : Int32))])) t → Steps p.tables e below (s₁.setTop (entryFrame m #[(.int (1 : Int32)), (.int (4 : Int32)), .null] 3)) t := fun t kt => by
    refine pre0 _ ?_
    show Steps p.tables e below (s₁.setTop (mkF m 0 #[iv (1 : Int32), iv (4 : Int32), .val .null] [])) _
    refine XS.iloadN X0.here hx rfl (hb hby d6_0) rfl ?_
    show Steps p.tables e below (s₁.setTop (mkF m 1 #[iv (1 : Int32), iv (4 : Int32), .val .null] [(.int (1 : Int32))])) _
    refine XS.ifNo X0.here hx rfl (hb hby d6_1) rfl (XT.i0_lt_f (by decide)) ?_
    show Steps p.tables e below (s₁.setTop (mkF m 4 #[iv (1 : Int32), iv (4 : Int32), .val .null] [])) _
    refine XS.iloadN X0.here hx rfl (hb hby d6_4) rfl ?_
    show Steps p.tables e below (s₁.setTop (mkF m 5 #[iv (1 : Int32), iv (4 : Int32), .val .null] [(.int (1 : Int32))])) _
    refine XS.iloadN X0.here hx rfl (hb hby d6_5) rfl ?_
    show Steps p.tables e below (s₁.setTop (mkF m 6 #[iv (1 : Int32), iv (4 : Int32), .val .null] [(.int (4 : Int32)), (.int (1 : Int32))])) _
    refine XS.icmpYes X0.here hx rfl (pc0 := 6) (pc' := 16) rfl (hb hby d6_6) rfl (XT.ii_lt_t (by decide)) (by decide) (by decide) ?_
    show Steps p.tables e below (s₁.setTop (mkF m 16 #[iv (1 : Int32), iv (4 : Int32), .val .null] [])) _
    refine XS.iloadN X0.here hx rfl (hb hby d6_16) rfl ?_
    exact kt
  obtain ⟨fs, hr, hrun, hended, hW, hsame⟩ := X0.leave (v := some (.int (1 : Int32))) (fun h => by rw [Bd.returns] at h; cases h)
  refine ⟨_, _, pre1312 _ (retI X0 hx Bd.returns (hb hby d6_17) hr), hrun, hended, _, _, rfl, ?_, ⟨_, rfl⟩, hW, hsame.mono (by decide) (by decide)⟩
  show Q_checkIndex6_8 Z  h0 n0 _ s₁.heap _
  rw [e0]
  exact ⟨rfl, N0, rfl⟩
def Q_checkIndex5_8 (Z : State)  (h0 : Heap) (n0 : Nat) (v : Option Value) (h : Heap) (L : List Loc) : Prop := v = some (.int (1 : Int32)) ∧ Fr n0 L ∧ h = h0
set_option maxRecDepth 65536 in
set_option maxHeartbeats 40000000 in
theorem rm_checkIndex5_8 (l : Launch) (Z : State) (a0 : Array Value) (hw : ∀ d ∈ tables_1, d.before a0 Z = true) (ws : List Jvm.Cond)  (h0 : Heap) (n0 : Nat) (O0 : Old Z n0 h0) :
    MetFree l (⟨"java/util/Objects", "checkIndex", "(II)I"⟩ : MethodName) (head1 (Jvm.Cond.code (⟨"java/util/Objects", "checkIndex", "(II)I"⟩ : MethodName) jdk_31_method_17_code 2 (some .int) :: ws) ({ frames := 1, cells := 0, slots := 0, locals := 14 } : Room)) (fun a U => a = #[(.int (1 : Int32)), (.int (4 : Int32))] ∧ Z.Warmed39 U.vm ∧ U.heap = h0) (fun _ _ _ _ _ => True) (fun _ U o U' => ∃ v L, o = .returned v ∧ Q_checkIndex5_8 Z  h0 n0 v U'.heap L ∧ FrameEnd U o U' L ({ frames := 1, cells := 0, slots := 0, locals := 14 } : Room).cells ({ frames := 1, cells := 0, slots := 0, locals := 14 } : Room).slots) := by
  refine MetFree.of_bodySF (plainFor_of_name pn_10) hisR ?_
  intro p e s m args below meth c s₁ Bd hml0 hP hK
  have W := fun {d : Jvm.Cond} (i : Nat) (q : tables_1[i]? = some d) => hw d (List.mem_of_getElem? q)
  obtain ⟨rfl, hZ, hh⟩ := hP
  have hx := Bd.exec
  have hby := Bd.bytes
  have hml : c.maxLocals = 2 := hml0
  have hown : s.vm.findClass "java/util/Objects" = some m.cls := findClass_of_methodNamed Bd.named
  have hnm := (name_of_methodNamed Bd.named Bd.method).1
  have X0 : Stand p l e ({ frames := 1, cells := 0, slots := 0, locals := 14 } : Room) s m #[(.int (1 : Int32)), (.int (4 : Int32))] below meth c s₁ [] 0 0 := Stand.of_body Bd
  have e0 : s₁.heap = h0 := by rw [← hh, Bd.state]; rfl
  have N0 := Fr.nil n0
  have pre0 : ∀ t, Steps p.tables e below (s₁.setTop (mkF m 0 #[iv (1 : Int32), iv (4 : Int32)] [])) t → Steps p.tables e below (s₁.setTop (entryFrame m #[(.int (1 : Int32)), (.int (4 : Int32))] 2)) t := fun t k => castTop (ef_11 m (1 : Int32) (4 : Int32)) k
  have K0 : Keep h0 h0 [] := Keep.refl h0 []
  have pre1317 : ∀ t, Steps p.tables e below (s₁.setTop (mkF m 3 #[iv (1 : Int32), iv (4 : Int32)] [.null, (.int (4 : Int32)), (.int (1 : Int32))])) t → Steps p.tables e below (s₁.setTop (entryFrame m #[(.int (1 : Int32)), (.int (4 : Int32))] 2)) t := fun t kt => by
    refine pre0 _ ?_
    show Steps p.tables e below (s₁.setTop (mkF m 0 #[iv (1 : Int32), iv (4 : Int32)] [])) _
    refine XS.iloadN X0.here hx rfl (hb hby d5_0) rfl ?_
    show Steps p.tables e below (s₁.setTop (mkF m 1 #[iv (1 : Int32), iv (4 : Int32)] [(.int (1 : Int32))])) _
    refine XS.iloadN X0.here hx rfl (hb hby d5_1) rfl ?_
    show Steps p.tables e below (s₁.setTop (mkF m 2 #[iv (1 : Int32), iv (4 : Int32)] [(.int (4 : Int32)), (.int (1 : Int32))])) _
    refine XS.aconstNull X0.here hx rfl (hb hby d5_2) ?_
    exact kt
  obtain ⟨_, _, ⟨T1318, L1318, k1318, n1318⟩, -, X1318, ⟨Lc1318, hQ1318, l1318, y1318, z1318⟩, st1318⟩ := Jvm.LawKit.callS X0 hx (y := (⟨"jdk/internal/util/Preconditions", "checkIndex", "(IILjava/util/function/BiFunction;)I"⟩ : MethodName)) hown (mvT hZ (W 33 rfl)) (mvT hZ (W 34 rfl)) (mvT hZ (W 35 rfl)) (mvT hZ (W 36 rfl)) (by decide) (backOf (W := 0) (rm_checkIndex6_8 l Z a0 hw [] h0 n0 O0) hZ (W 36 rfl) (W 35 rfl) (by decide) (by decide)) (g := (mkF m 3 #[iv (1 : Int32), iv (4 : Int32)] [.null, (.int (4 : Int32)), (.int (1 : Int32))])) rfl (by rw [hml]; rfl) (argsL := [(.int (1 : Int32)), (.int (4 : Int32)), .null]) (rest := []) (lenOf pd_9 rfl) rfl (by show 2 * 0 + _ ≤ _; exact Nat.le_of_eq rfl) (hb hby d5_3) (fun _ _ => ⟨rfl, e0, (by decide : 0 + 0 ≤ _), (by decide : 0 + 0 ≤ _)⟩)
  dsimp only [Pt.U, Pt.locs, Pt.cells, Pt.slots] at X1318 l1318 y1318 z1318 st1318 hQ1318
  replace l1318 := l1318.symm
  replace y1318 : 0 = k1318 := y1318.symm
  replace z1318 : 0 = n1318 := z1318.symm
  subst l1318 y1318 z1318
  obtain ⟨rfl, M1318, e1318⟩ := hQ1318
  have N1318 := Fr.app N0 M1318
  have pre1319 : ∀ t, Steps p.tables e below (T1318.setTop (mkF m 6 #[iv (1 : Int32), iv (4 : Int32)] [(.int (1 : Int32))])) t → Steps p.tables e below (s₁.setTop (entryFrame m #[(.int (1 : Int32)), (.int (4 : Int32))] 2)) t := fun t kt => pre1317 _ (st1318 _ kt)
  obtain ⟨fs, hr, hrun, hended, hW, hsame⟩ := X1318.leave (v := some (.int (1 : Int32))) (fun h => by rw [Bd.returns] at h; cases h)
  refine ⟨_, _, pre1319 _ (retI X1318 hx Bd.returns (hb hby d5_6) hr), hrun, hended, _, _, rfl, ?_, ⟨_, rfl⟩, hW, hsame.mono (by decide) (by decide)⟩
  show Q_checkIndex5_8 Z  h0 n0 _ T1318.heap _
  rw [e1318]
  exact ⟨rfl, N1318, rfl⟩
def Q_get4_8 (Z : State) (b1007 : Addr) (k51_1013 : ClassId) (b51_1013 : Addr) (b221_1016 : Addr) (p0 : Int32) (p1 : Int32) (p2 : Int32) (p3 : Int32) (k221_1016 : ClassId) (h0 : Heap) (n0 : Nat) (v : Option Value) (h : Heap) (L : List Loc) : Prop := v = some (.int p1) ∧ Fr n0 L ∧ h = h0
set_option maxRecDepth 65536 in
set_option maxHeartbeats 40000000 in
theorem rm_get4_8 (l : Launch) (Z : State) (a0 : Array Value) (hw : ∀ d ∈ tables_1, d.before a0 Z = true) (ws : List Jvm.Cond) (b1007 : Addr) (k51_1013 : ClassId) (b51_1013 : Addr) (b221_1016 : Addr) (p0 : Int32) (p1 : Int32) (p2 : Int32) (p3 : Int32) (k221_1016 : ClassId) (h0 : Heap) (n0 : Nat) (O0 : Old Z n0 h0) (Fi0 : Arv Z h0 b51_1013 k51_1013 (.array .int) (1 : Int32) [(.ref b221_1016)] .null) (Fi1 : Fld Z h0 b1007 "org/reachwatch/IntBlocks" "blocks" "[[I" (.ref b51_1013)) (Fi2 : Arv Z h0 b221_1016 k221_1016 .int (16 : Int32) [(.int p0), (.int p1), (.int p2), (.int p3), (.int (0 : Int32)), (.int (0 : Int32)), (.int (0 : Int32)), (.int (0 : Int32)), (.int (0 : Int32)), (.int (0 : Int32)), (.int (0 : Int32)), (.int (0 : Int32)), (.int (0 : Int32)), (.int (0 : Int32)), (.int (0 : Int32)), (.int (0 : Int32))] (.int (0 : Int32))) (Fi3 : Fld Z h0 b1007 "org/reachwatch/IntBlocks" "size" "I" (.int (4 : Int32))) :
    MetFree l (⟨"org/reachwatch/IntBlocks", "get", "(I)I"⟩ : MethodName) (head1 (Jvm.Cond.code (⟨"org/reachwatch/IntBlocks", "get", "(I)I"⟩ : MethodName) prog_56_method_3_code 2 (some .int) :: ws) ({ frames := 2, cells := 0, slots := 0, locals := 27 } : Room)) (fun a U => a = #[(.ref b1007), (.int (1 : Int32))] ∧ Z.Warmed39 U.vm ∧ U.heap = h0) (fun _ _ _ _ _ => True) (fun _ U o U' => ∃ v L, o = .returned v ∧ Q_get4_8 Z b1007 k51_1013 b51_1013 b221_1016 p0 p1 p2 p3 k221_1016 h0 n0 v U'.heap L ∧ FrameEnd U o U' L ({ frames := 2, cells := 0, slots := 0, locals := 27 } : Room).cells ({ frames := 2, cells := 0, slots := 0, locals := 27 } : Room).slots) := by
  refine MetFree.of_bodySF (plainFor_of_name pn_2) hisR ?_
  intro p e s m args below meth c s₁ Bd hml0 hP hK
  have W := fun {d : Jvm.Cond} (i : Nat) (q : tables_1[i]? = some d) => hw d (List.mem_of_getElem? q)
  obtain ⟨rfl, hZ, hh⟩ := hP
  have hx := Bd.exec
  have hby := Bd.bytes
  have hml : c.maxLocals = 2 := hml0
  have hown : s.vm.findClass "org/reachwatch/IntBlocks" = some m.cls := findClass_of_methodNamed Bd.named
  have hnm := (name_of_methodNamed Bd.named Bd.method).1
  have X0 : Stand p l e ({ frames := 2, cells := 0, slots := 0, locals := 27 } : Room) s m #[(.ref b1007), (.int (1 : Int32))] below meth c s₁ [] 0 0 := Stand.of_body Bd
  have e0 : s₁.heap = h0 := by rw [← hh, Bd.state]; rfl
  have N0 := Fr.nil n0
  have pre0 : ∀ t, Steps p.tables e below (s₁.setTop (mkF m 0 #[rv b1007, iv (1 : Int32)] [])) t → Steps p.tables e below (s₁.setTop (entryFrame m #[(.ref b1007), (.int (1 : Int32))] 2)) t := fun t k => castTop (ef_13 m b1007 (1 : Int32)) k
  have K0 : Keep h0 h0 [] := Keep.refl h0 []
  have pre1342 : ∀ t, Steps p.tables e below (s₁.setTop (mkF m 2 #[rv b1007, iv (1 : Int32)] [(.ref b1007), (.int (1 : Int32))])) t → Steps p.tables e below (s₁.setTop (entryFrame m #[(.ref b1007), (.int (1 : Int32))] 2)) t := fun t kt => by
    refine pre0 _ ?_
    show Steps p.tables e below (s₁.setTop (mkF m 0 #[rv b1007, iv (1 : Int32)] [])) _
    refine XS.iloadN X0.here hx rfl (hb hby d4_0) rfl ?_
    show Steps p.tables e below (s₁.setTop (mkF m 1 #[rv b1007, iv (1 : Int32)] [(.int (1 : Int32))])) _
    refine XS.aloadN X0.here hx rfl (hb hby d4_1) rfl rfl ?_
    exact kt
  obtain ⟨T1343, X1343, e1343, st1343⟩ := getF X0 hx hZ hown (host := "") (Or.inl (W 18 rfl)) Via.refl e0 Fi3 (g := (mkF m 2 #[rv b1007, iv (1 : Int32)] [(.ref b1007), (.int (1 : Int32))])) rfl rfl (hb hby d4_2)
  have pre1344 : ∀ t, Steps p.tables e below (T1343.setTop (mkF m 5 #[rv b1007, iv (1 : Int32)] [(.int (4 : Int32)), (.int (1 : Int32))])) t → Steps p.tables e below (s₁.setTop (entryFrame m #[(.ref b1007), (.int (1 : Int32))] 2)) t := fun t kt => pre1342 _ (st1343 _ kt)
  obtain ⟨_, _, ⟨T1345, L1345, k1345, n1345⟩, -, X1345, ⟨Lc1345, hQ1345, l1345, y1345, z1345⟩, st1345⟩ := Jvm.LawKit.callS X1343 hx (y := (⟨"java/util/Objects", "checkIndex", "(II)I"⟩ : MethodName)) hown (mvT hZ (W 29 rfl)) (mvT hZ (W 30 rfl)) (mvT hZ (W 31 rfl)) (mvT hZ (W 32 rfl)) (by decide) (backOf (W := 0) (rm_checkIndex5_8 l Z a0 hw [] h0 n0 O0) hZ (W 32 rfl) (W 31 rfl) (by decide) (by decide)) (g := (mkF m 5 #[rv b1007, iv (1 : Int32)] [(.int (4 : Int32)), (.int (1 : Int32))])) rfl (by rw [hml]; rfl) (argsL := [(.int (1 : Int32)), (.int (4 : Int32))]) (rest := []) (lenOf pd_12 rfl) rfl (by show 2 * 0 + _ ≤ _; exact Nat.le_of_eq rfl) (hb hby d4_5) (fun _ _ => ⟨rfl, e1343, (by decide : 0 + 0 ≤ _), (by decide : 0 + 0 ≤ _)⟩)
  dsimp only [Pt.U, Pt.locs, Pt.cells, Pt.slots] at X1345 l1345 y1345 z1345 st1345 hQ1345
  replace l1345 := l1345.symm
  replace y1345 : 0 = k1345 := y1345.symm
  replace z1345 : 0 = n1345 := z1345.symm
  subst l1345 y1345 z1345
  obtain ⟨rfl, M1345, e1345⟩ := hQ1345
  have N1345 := Fr.app N0 M1345
  have pre1346 : ∀ t, Steps p.tables e below (T1345.setTop (mkF m 8 #[rv b1007, iv (1 : Int32)] [(.int (1 : Int32))])) t → Steps p.tables e below (s₁.setTop (entryFrame m #[(.ref b1007), (.int (1 : Int32))] 2)) t := fun t kt => pre1344 _ (st1345 _ kt)
  have pre1347 : ∀ t, Steps p.tables e below (T1345.setTop (mkF m 10 #[rv b1007, iv (1 : Int32)] [(.ref b1007)])) t → Steps p.tables e below (s₁.setTop (entryFrame m #[(.ref b1007), (.int (1 : Int32))] 2)) t := fun t kt => by
    refine pre1346 _ ?_
    show Steps p.tables e below (T1345.setTop (mkF m 8 #[rv b1007, iv (1 : Int32)] [(.int (1 : Int32))])) _
    refine XS.pop X1345.here hx rfl (hb hby d4_8) rfl rfl ?_
    show Steps p.tables e below (T1345.setTop (mkF m 9 #[rv b1007, iv (1 : Int32)] [])) _
    refine XS.aloadN X1345.here hx rfl (hb hby d4_9) rfl rfl ?_
    exact kt
  obtain ⟨T1348, X1348, e1348, st1348⟩ := getF X1345 hx hZ hown (host := "") (Or.inl (W 11 rfl)) Via.refl e1345 Fi1 (g := (mkF m 10 #[rv b1007, iv (1 : Int32)] [(.ref b1007)])) rfl rfl (hb hby d4_10)
  have pre1349 : ∀ t, Steps p.tables e below (T1348.setTop (mkF m 13 #[rv b1007, iv (1 : Int32)] [(.ref b51_1013)])) t → Steps p.tables e below (s₁.setTop (entryFrame m #[(.ref b1007), (.int (1 : Int32))] 2)) t := fun t kt => pre1347 _ (st1348 _ kt)
  have pre1351 : ∀ t, Steps p.tables e below (T1348.setTop (mkF m 17 #[rv b1007, iv (1 : Int32)] [(.int (0 : Int32)), (.ref b51_1013)])) t → Steps p.tables e below (s₁.setTop (entryFrame m #[(.ref b1007), (.int (1 : Int32))] 2)) t := fun t kt => by
    refine pre1349 _ ?_
    show Steps p.tables e below (T1348.setTop (mkF m 13 #[rv b1007, iv (1 : Int32)] [(.ref b51_1013)])) _
    refine XS.iloadN X1348.here hx rfl (hb hby d4_13) rfl ?_
    show Steps p.tables e below (T1348.setTop (mkF m 14 #[rv b1007, iv (1 : Int32)] [(.int (1 : Int32)), (.ref b51_1013)])) _
    refine X1348.ldcInt hx hown (mvT hZ (W 20 rfl)) (g := (mkF m 14 #[rv b1007, iv (1 : Int32)] [(.int (1 : Int32)), (.ref b51_1013)])) rfl (hb hby d4_14) _ ?_
    show Steps p.tables e below (T1348.setTop (mkF m 16 #[rv b1007, iv (1 : Int32)] [(.int (65536 : Int32)), (.int (1 : Int32)), (.ref b51_1013)])) _
    refine XS.idiv X1348.here hx rfl (hb hby d4_16) rfl (by decide) ?_
    show  Steps p.tables e below (T1348.setTop (mkF m 17 #[rv b1007, iv (1 : Int32)] [(.int ((1 : Int32) / (65536 : Int32))), (.ref b51_1013)])) _
    rw [(by decide : (((1 : Int32) / (65536 : Int32)) : Int32) = (0 : Int32))]
    exact kt
  obtain ⟨c1350, Ar1350, q1350, S1350, M1350, H1350, G1350⟩ := id Fi0
  have i1350 : ¬ ((0 : Int32) < 0 ∨ c1350.slots.size ≤ ((0 : Int32)).toNatClampNeg) := inb_of S1350 ⟨by decide, by decide⟩
  have t1350 : c1350.slots[((0 : Int32)).toNatClampNeg]? = some (.ref b221_1016) := Has.at H1350 i1350 rfl
  have pre1353 : ∀ t, Steps p.tables e below (T1348.setTop (mkF m 22 #[rv b1007, iv (1 : Int32)] [(.int (1 : Int32)), (.ref b221_1016)])) t → Steps p.tables e below (s₁.setTop (entryFrame m #[(.ref b1007), (.int (1 : Int32))] 2)) t := fun t kt => by
    refine pre1351 _ ?_
    show Steps p.tables e below (T1348.setTop (mkF m 17 #[rv b1007, iv (1 : Int32)] [(.int (0 : Int32)), (.ref b51_1013)])) _
    refine X1348.aaload hx (j := (0 : Int32)) (v := (.ref b221_1016)) (by rw [e1348]; exact Ar1350.1) (State.isArrayOf_alike hZ.alike Ar1350.2.1) rfl Ar1350.2.2 i1350 t1350 (g := (mkF m 17 #[rv b1007, iv (1 : Int32)] [(.int (0 : Int32)), (.ref b51_1013)])) rfl rfl (hb hby d4_17) _ ?_
    show Steps p.tables e below (T1348.setTop (mkF m 18 #[rv b1007, iv (1 : Int32)] [(.ref b221_1016)])) _
    refine XS.iloadN X1348.here hx rfl (hb hby d4_18) rfl ?_
    show Steps p.tables e below (T1348.setTop (mkF m 19 #[rv b1007, iv (1 : Int32)] [(.int (1 : Int32)), (.ref b221_1016)])) _
    refine X1348.ldcInt hx hown (mvT hZ (W 20 rfl)) (g := (mkF m 19 #[rv b1007, iv (1 : Int32)] [(.int (1 : Int32)), (.ref b221_1016)])) rfl (hb hby d4_19) _ ?_
    show Steps p.tables e below (T1348.setTop (mkF m 21 #[rv b1007, iv (1 : Int32)] [(.int (65536 : Int32)), (.int (1 : Int32)), (.ref b221_1016)])) _
    refine XS.irem X1348.here hx rfl (hb hby d4_21) rfl (by decide) ?_
    show  Steps p.tables e below (T1348.setTop (mkF m 22 #[rv b1007, iv (1 : Int32)] [(.int ((1 : Int32) - ((1 : Int32) / (65536 : Int32)) * (65536 : Int32))), (.ref b221_1016)])) _
    rw [(by decide : (((1 : Int32) - ((1 : Int32) / (65536 : Int32)) * (65536 : Int32)) : Int32) = (1 : Int32))]
    exact kt
  obtain ⟨c1352, Ar1352, q1352, S1352, M1352, H1352, G1352⟩ := id Fi2
  have i1352 : ¬ ((1 : Int32) < 0 ∨ c1352.slots.size ≤ ((1 : Int32)).toNatClampNeg) := inb_of S1352 ⟨by decide, by decide⟩
  have t1352 : c1352.slots[((1 : Int32)).toNatClampNeg]? = some (.int p1) := Has.at H1352 i1352 rfl
  have pre1354 : ∀ t, Steps p.tables e below (T1348.setTop (mkF m 23 #[rv b1007, iv (1 : Int32)] [(.int p1)])) t → Steps p.tables e below (s₁.setTop (entryFrame m #[(.ref b1007), (.int (1 : Int32))] 2)) t := fun t kt => by
    refine pre1353 _ ?_
    show Steps p.tables e below (T1348.setTop (mkF m 22 #[rv b1007, iv (1 : Int32)] [(.int (1 : Int32)), (.ref b221_1016)])) _
    refine X1348.iaload hx (j := (1 : Int32)) (v := (.int p1)) (by rw [e1348]; exact Ar1352.1) (State.isArrayOf_alike hZ.alike Ar1352.2.1) Ar1352.2.2 i1352 t1352 (g := (mkF m 22 #[rv b1007, iv (1 : Int32)] [(.int (1 : Int32)), (.ref b221_1016)])) rfl rfl (hb hby d4_22) _ ?_
    exact kt
  obtain ⟨fs, hr, hrun, hended, hW, hsame⟩ := X1348.leave (v := some (.int p1)) (fun h => by rw [Bd.returns] at h; cases h)
  refine ⟨_, _, pre1354 _ (retI X1348 hx Bd.returns (hb hby d4_23) hr), hrun, hended, _, _, rfl, ?_, ⟨_, rfl⟩, hW, hsame.mono (by decide) (by decide)⟩
  show Q_get4_8 Z b1007 k51_1013 b51_1013 b221_1016 p0 p1 p2 p3 k221_1016 h0 n0 _ T1348.heap _
  rw [e1348]
  exact ⟨rfl, N1345, rfl⟩
def Q_checkIndex6_9 (Z : State)  (h0 : Heap) (n0 : Nat) (v : Option Value) (h : Heap) (L : List Loc) : Prop := v = some (.int (2 : Int32)) ∧ Fr n0 L ∧ h = h0
set_option maxRecDepth 65536 in
set_option maxHeartbeats 40000000 in
theorem rm_checkIndex6_9 (l : Launch) (Z : State) (a0 : Array Value) (hw : ∀ d ∈ tables_1, d.before a0 Z = true) (ws : List Jvm.Cond)  (h0 : Heap) (n0 : Nat) (O0 : Old Z n0 h0) :
    MetFree l (⟨"jdk/internal/util/Preconditions", "checkIndex", "(IILjava/util/function/BiFunction;)I"⟩ : MethodName) (head1 (Jvm.Cond.code (⟨"jdk/internal/util/Preconditions", "checkIndex", "(IILjava/util/function/BiFunction;)I"⟩ : MethodName) jdk_41_method_11_code 3 (some .int) :: ws) ({ frames := 0, cells := 0, slots := 0, locals := 0 } : Room)) (fun a U => a = #[(.int (2 : Int32)), (.int (4 : Int32)), .null] ∧ Z.Warmed39 U.vm ∧ U.heap = h0) (fun _ _ _ _ _ => True) (fun _ U o U' => ∃ v L, o = .returned v ∧ Q_checkIndex6_9 Z  h0 n0 v U'.heap L ∧ FrameEnd U o U' L ({ frames := 0, cells := 0, slots := 0, locals := 0 } : Room).cells ({ frames := 0, cells := 0, slots := 0, locals := 0 } : Room).slots) := by
  refine MetFree.of_bodySF (plainFor_of_name pn_7) hisR ?_
  intro p e s m args below meth c s₁ Bd hml0 hP hK
  have W := fun {d : Jvm.Cond} (i : Nat) (q : tables_1[i]? = some d) => hw d (List.mem_of_getElem? q)
  obtain ⟨rfl, hZ, hh⟩ := hP
  have hx := Bd.exec
  have hby := Bd.bytes
  have hml : c.maxLocals = 3 := hml0
  have hown : s.vm.findClass "jdk/internal/util/Preconditions" = some m.cls := findClass_of_methodNamed Bd.named
  have hnm := (name_of_methodNamed Bd.named Bd.method).1
  have X0 : Stand p l e ({ frames := 0, cells := 0, slots := 0, locals := 0 } : Room) s m #[(.int (2 : Int32)), (.int (4 : Int32)), .null] below meth c s₁ [] 0 0 := Stand.of_body Bd
  have e0 : s₁.heap = h0 := by rw [← hh, Bd.state]; rfl
  have N0 := Fr.nil n0
  have pre0 : ∀ t, Steps p.tables e below (s₁.setTop (mkF m 0 #[iv (2 : Int32), iv (4 : Int32), .val .null] [])) t → Steps p.tables e below (s₁.setTop (entryFrame m #[(.int (2 : Int32)), (.int (4 : Int32)), .null] 3)) t := fun t k => castTop (ef_8 m (2 : Int32) (4 : Int32)) k
  have K0 : Keep h0 h0 [] := Keep.refl h0 []
  have pre1376 : ∀ t, Steps p.tables e below (s₁.setTop (mkF m 17 #[iv (2 : Int32), iv (4 : Int32), .val .null] [(.int (2 : Int32))])) t → Steps p.tables e below (s₁.setTop (entryFrame m #[(.int (2 : Int32)), (.int (4 : Int32)), .null] 3)) t := fun t kt => by
    refine pre0 _ ?_
    show Steps p.tables e below (s₁.setTop (mkF m 0 #[iv (2 : Int32), iv (4 : Int32), .val .null] [])) _
    refine XS.iloadN X0.here hx rfl (hb hby d6_0) rfl ?_
    show Steps p.tables e below (s₁.setTop (mkF m 1 #[iv (2 : Int32), iv (4 : Int32), .val .null] [(.int (2 : Int32))])) _
    refine XS.ifNo X0.here hx rfl (hb hby d6_1) rfl (XT.i0_lt_f (by decide)) ?_
    show Steps p.tables e below (s₁.setTop (mkF m 4 #[iv (2 : Int32), iv (4 : Int32), .val .null] [])) _
    refine XS.iloadN X0.here hx rfl (hb hby d6_4) rfl ?_
    show Steps p.tables e below (s₁.setTop (mkF m 5 #[iv (2 : Int32), iv (4 : Int32), .val .null] [(.int (2 : Int32))])) _
    refine XS.iloadN X0.here hx rfl (hb hby d6_5) rfl ?_
    show Steps p.tables e below (s₁.setTop (mkF m 6 #[iv (2 : Int32), iv (4 : Int32), .val .null] [(.int (4 : Int32)), (.int (2 : Int32))])) _
    refine XS.icmpYes X0.here hx rfl (pc0 := 6) (pc' := 16) rfl (hb hby d6_6) rfl (XT.ii_lt_t (by decide)) (by decide) (by decide) ?_
    show Steps p.tables e below (s₁.setTop (mkF m 16 #[iv (2 : Int32), iv (4 : Int32), .val .null] [])) _
    refine XS.iloadN X0.here hx rfl (hb hby d6_16) rfl ?_
    exact kt
  obtain ⟨fs, hr, hrun, hended, hW, hsame⟩ := X0.leave (v := some (.int (2 : Int32))) (fun h => by rw [Bd.returns] at h; cases h)
  refine ⟨_, _, pre1376 _ (retI X0 hx Bd.returns (hb hby d6_17) hr), hrun, hended, _, _, rfl, ?_, ⟨_, rfl⟩, hW, hsame.mono (by decide) (by decide)⟩
  show Q_checkIndex6_9 Z  h0 n0 _ s₁.heap _
  rw [e0]
  exact ⟨rfl, N0, rfl⟩
def Q_checkIndex5_9 (Z : State)  (h0 : Heap) (n0 : Nat) (v : Option Value) (h : Heap) (L : List Loc) : Prop := v = some (.int (2 : Int32)) ∧ Fr n0 L ∧ h = h0
set_option maxRecDepth 65536 in
set_option maxHeartbeats 40000000 in
theorem rm_checkIndex5_9 (l : Launch) (Z : State) (a0 : Array Value) (hw : ∀ d ∈ tables_1, d.before a0 Z = true) (ws : List Jvm.Cond)  (h0 : Heap) (n0 : Nat) (O0 : Old Z n0 h0) :
    MetFree l (⟨"java/util/Objects", "checkIndex", "(II)I"⟩ : MethodName) (head1 (Jvm.Cond.code (⟨"java/util/Objects", "checkIndex", "(II)I"⟩ : MethodName) jdk_31_method_17_code 2 (some .int) :: ws) ({ frames := 1, cells := 0, slots := 0, locals := 14 } : Room)) (fun a U => a = #[(.int (2 : Int32)), (.int (4 : Int32))] ∧ Z.Warmed39 U.vm ∧ U.heap = h0) (fun _ _ _ _ _ => True) (fun _ U o U' => ∃ v L, o = .returned v ∧ Q_checkIndex5_9 Z  h0 n0 v U'.heap L ∧ FrameEnd U o U' L ({ frames := 1, cells := 0, slots := 0, locals := 14 } : Room).cells ({ frames := 1, cells := 0, slots := 0, locals := 14 } : Room).slots) := by
  refine MetFree.of_bodySF (plainFor_of_name pn_10) hisR ?_
  intro p e s m args below meth c s₁ Bd hml0 hP hK
  have W := fun {d : Jvm.Cond} (i : Nat) (q : tables_1[i]? = some d) => hw d (List.mem_of_getElem? q)
  obtain ⟨rfl, hZ, hh⟩ := hP
  have hx := Bd.exec
  have hby := Bd.bytes
  have hml : c.maxLocals = 2 := hml0
  have hown : s.vm.findClass "java/util/Objects" = some m.cls := findClass_of_methodNamed Bd.named
  have hnm := (name_of_methodNamed Bd.named Bd.method).1
  have X0 : Stand p l e ({ frames := 1, cells := 0, slots := 0, locals := 14 } : Room) s m #[(.int (2 : Int32)), (.int (4 : Int32))] below meth c s₁ [] 0 0 := Stand.of_body Bd
  have e0 : s₁.heap = h0 := by rw [← hh, Bd.state]; rfl
  have N0 := Fr.nil n0
  have pre0 : ∀ t, Steps p.tables e below (s₁.setTop (mkF m 0 #[iv (2 : Int32), iv (4 : Int32)] [])) t → Steps p.tables e below (s₁.setTop (entryFrame m #[(.int (2 : Int32)), (.int (4 : Int32))] 2)) t := fun t k => castTop (ef_11 m (2 : Int32) (4 : Int32)) k
  have K0 : Keep h0 h0 [] := Keep.refl h0 []
  have pre1381 : ∀ t, Steps p.tables e below (s₁.setTop (mkF m 3 #[iv (2 : Int32), iv (4 : Int32)] [.null, (.int (4 : Int32)), (.int (2 : Int32))])) t → Steps p.tables e below (s₁.setTop (entryFrame m #[(.int (2 : Int32)), (.int (4 : Int32))] 2)) t := fun t kt => by
    refine pre0 _ ?_
    show Steps p.tables e below (s₁.setTop (mkF m 0 #[iv (2 : Int32), iv (4 : Int32)] [])) _
    refine XS.iloadN X0.here hx rfl (hb hby d5_0) rfl ?_
    show Steps p.tables e below (s₁.setTop (mkF m 1 #[iv (2 : Int32), iv (4 : Int32)] [(.int (2 : Int32))])) _
    refine XS.iloadN X0.here hx rfl (hb hby d5_1) rfl ?_
    show Steps p.tables e below (s₁.setTop (mkF m 2 #[iv (2 : Int32), iv (4 : Int32)] [(.int (4 : Int32)), (.int (2 : Int32))])) _
    refine XS.aconstNull X0.here hx rfl (hb hby d5_2) ?_
    exact kt
  obtain ⟨_, _, ⟨T1382, L1382, k1382, n1382⟩, -, X1382, ⟨Lc1382, hQ1382, l1382, y1382, z1382⟩, st1382⟩ := Jvm.LawKit.callS X0 hx (y := (⟨"jdk/internal/util/Preconditions", "checkIndex", "(IILjava/util/function/BiFunction;)I"⟩ : MethodName)) hown (mvT hZ (W 33 rfl)) (mvT hZ (W 34 rfl)) (mvT hZ (W 35 rfl)) (mvT hZ (W 36 rfl)) (by decide) (backOf (W := 0) (rm_checkIndex6_9 l Z a0 hw [] h0 n0 O0) hZ (W 36 rfl) (W 35 rfl) (by decide) (by decide)) (g := (mkF m 3 #[iv (2 : Int32), iv (4 : Int32)] [.null, (.int (4 : Int32)), (.int (2 : Int32))])) rfl (by rw [hml]; rfl) (argsL := [(.int (2 : Int32)), (.int (4 : Int32)), .null]) (rest := []) (lenOf pd_9 rfl) rfl (by show 2 * 0 + _ ≤ _; exact Nat.le_of_eq rfl) (hb hby d5_3) (fun _ _ => ⟨rfl, e0, (by decide : 0 + 0 ≤ _), (by decide : 0 + 0 ≤ _)⟩)
  dsimp only [Pt.U, Pt.locs, Pt.cells, Pt.slots] at X1382 l1382 y1382 z1382 st1382 hQ1382
  replace l1382 := l1382.symm
  replace y1382 : 0 = k1382 := y1382.symm
  replace z1382 : 0 = n1382 := z1382.symm
  subst l1382 y1382 z1382
  obtain ⟨rfl, M1382, e1382⟩ := hQ1382
  have N1382 := Fr.app N0 M1382
  have pre1383 : ∀ t, Steps p.tables e below (T1382.setTop (mkF m 6 #[iv (2 : Int32), iv (4 : Int32)] [(.int (2 : Int32))])) t → Steps p.tables e below (s₁.setTop (entryFrame m #[(.int (2 : Int32)), (.int (4 : Int32))] 2)) t := fun t kt => pre1381 _ (st1382 _ kt)
  obtain ⟨fs, hr, hrun, hended, hW, hsame⟩ := X1382.leave (v := some (.int (2 : Int32))) (fun h => by rw [Bd.returns] at h; cases h)
  refine ⟨_, _, pre1383 _ (retI X1382 hx Bd.returns (hb hby d5_6) hr), hrun, hended, _, _, rfl, ?_, ⟨_, rfl⟩, hW, hsame.mono (by decide) (by decide)⟩
  show Q_checkIndex5_9 Z  h0 n0 _ T1382.heap _
  rw [e1382]
  exact ⟨rfl, N1382, rfl⟩
def Q_get4_9 (Z : State) (b1007 : Addr) (k51_1013 : ClassId) (b51_1013 : Addr) (b221_1016 : Addr) (p0 : Int32) (p1 : Int32) (p2 : Int32) (p3 : Int32) (k221_1016 : ClassId) (h0 : Heap) (n0 : Nat) (v : Option Value) (h : Heap) (L : List Loc) : Prop := v = some (.int p2) ∧ Fr n0 L ∧ h = h0
set_option maxRecDepth 65536 in
set_option maxHeartbeats 40000000 in
theorem rm_get4_9 (l : Launch) (Z : State) (a0 : Array Value) (hw : ∀ d ∈ tables_1, d.before a0 Z = true) (ws : List Jvm.Cond) (b1007 : Addr) (k51_1013 : ClassId) (b51_1013 : Addr) (b221_1016 : Addr) (p0 : Int32) (p1 : Int32) (p2 : Int32) (p3 : Int32) (k221_1016 : ClassId) (h0 : Heap) (n0 : Nat) (O0 : Old Z n0 h0) (Fi0 : Arv Z h0 b51_1013 k51_1013 (.array .int) (1 : Int32) [(.ref b221_1016)] .null) (Fi1 : Fld Z h0 b1007 "org/reachwatch/IntBlocks" "blocks" "[[I" (.ref b51_1013)) (Fi2 : Arv Z h0 b221_1016 k221_1016 .int (16 : Int32) [(.int p0), (.int p1), (.int p2), (.int p3), (.int (0 : Int32)), (.int (0 : Int32)), (.int (0 : Int32)), (.int (0 : Int32)), (.int (0 : Int32)), (.int (0 : Int32)), (.int (0 : Int32)), (.int (0 : Int32)), (.int (0 : Int32)), (.int (0 : Int32)), (.int (0 : Int32)), (.int (0 : Int32))] (.int (0 : Int32))) (Fi3 : Fld Z h0 b1007 "org/reachwatch/IntBlocks" "size" "I" (.int (4 : Int32))) :
    MetFree l (⟨"org/reachwatch/IntBlocks", "get", "(I)I"⟩ : MethodName) (head1 (Jvm.Cond.code (⟨"org/reachwatch/IntBlocks", "get", "(I)I"⟩ : MethodName) prog_56_method_3_code 2 (some .int) :: ws) ({ frames := 2, cells := 0, slots := 0, locals := 27 } : Room)) (fun a U => a = #[(.ref b1007), (.int (2 : Int32))] ∧ Z.Warmed39 U.vm ∧ U.heap = h0) (fun _ _ _ _ _ => True) (fun _ U o U' => ∃ v L, o = .returned v ∧ Q_get4_9 Z b1007 k51_1013 b51_1013 b221_1016 p0 p1 p2 p3 k221_1016 h0 n0 v U'.heap L ∧ FrameEnd U o U' L ({ frames := 2, cells := 0, slots := 0, locals := 27 } : Room).cells ({ frames := 2, cells := 0, slots := 0, locals := 27 } : Room).slots) := by
  refine MetFree.of_bodySF (plainFor_of_name pn_2) hisR ?_
  intro p e s m args below meth c s₁ Bd hml0 hP hK
  have W := fun {d : Jvm.Cond} (i : Nat) (q : tables_1[i]? = some d) => hw d (List.mem_of_getElem? q)
  obtain ⟨rfl, hZ, hh⟩ := hP
  have hx := Bd.exec
  have hby := Bd.bytes
  have hml : c.maxLocals = 2 := hml0
  have hown : s.vm.findClass "org/reachwatch/IntBlocks" = some m.cls := findClass_of_methodNamed Bd.named
  have hnm := (name_of_methodNamed Bd.named Bd.method).1
  have X0 : Stand p l e ({ frames := 2, cells := 0, slots := 0, locals := 27 } : Room) s m #[(.ref b1007), (.int (2 : Int32))] below meth c s₁ [] 0 0 := Stand.of_body Bd
  have e0 : s₁.heap = h0 := by rw [← hh, Bd.state]; rfl
  have N0 := Fr.nil n0
  have pre0 : ∀ t, Steps p.tables e below (s₁.setTop (mkF m 0 #[rv b1007, iv (2 : Int32)] [])) t → Steps p.tables e below (s₁.setTop (entryFrame m #[(.ref b1007), (.int (2 : Int32))] 2)) t := fun t k => castTop (ef_13 m b1007 (2 : Int32)) k
  have K0 : Keep h0 h0 [] := Keep.refl h0 []
  have pre1406 : ∀ t, Steps p.tables e below (s₁.setTop (mkF m 2 #[rv b1007, iv (2 : Int32)] [(.ref b1007), (.int (2 : Int32))])) t → Steps p.tables e below (s₁.setTop (entryFrame m #[(.ref b1007), (.int (2 : Int32))] 2)) t := fun t kt => by
    refine pre0 _ ?_
    show Steps p.tables e below (s₁.setTop (mkF m 0 #[rv b1007, iv (2 : Int32)] [])) _
    refine XS.iloadN X0.here hx rfl (hb hby d4_0) rfl ?_
    show Steps p.tables e below (s₁.setTop (mkF m 1 #[rv b1007, iv (2 : Int32)] [(.int (2 : Int32))])) _
    refine XS.aloadN X0.here hx rfl (hb hby d4_1) rfl rfl ?_
    exact kt
  obtain ⟨T1407, X1407, e1407, st1407⟩ := getF X0 hx hZ hown (host := "") (Or.inl (W 18 rfl)) Via.refl e0 Fi3 (g := (mkF m 2 #[rv b1007, iv (2 : Int32)] [(.ref b1007), (.int (2 : Int32))])) rfl rfl (hb hby d4_2)
  have pre1408 : ∀ t, Steps p.tables e below (T1407.setTop (mkF m 5 #[rv b1007, iv (2 : Int32)] [(.int (4 : Int32)), (.int (2 : Int32))])) t → Steps p.tables e below (s₁.setTop (entryFrame m #[(.ref b1007), (.int (2 : Int32))] 2)) t := fun t kt => pre1406 _ (st1407 _ kt)
  obtain ⟨_, _, ⟨T1409, L1409, k1409, n1409⟩, -, X1409, ⟨Lc1409, hQ1409, l1409, y1409, z1409⟩, st1409⟩ := Jvm.LawKit.callS X1407 hx (y := (⟨"java/util/Objects", "checkIndex", "(II)I"⟩ : MethodName)) hown (mvT hZ (W 29 rfl)) (mvT hZ (W 30 rfl)) (mvT hZ (W 31 rfl)) (mvT hZ (W 32 rfl)) (by decide) (backOf (W := 0) (rm_checkIndex5_9 l Z a0 hw [] h0 n0 O0) hZ (W 32 rfl) (W 31 rfl) (by decide) (by decide)) (g := (mkF m 5 #[rv b1007, iv (2 : Int32)] [(.int (4 : Int32)), (.int (2 : Int32))])) rfl (by rw [hml]; rfl) (argsL := [(.int (2 : Int32)), (.int (4 : Int32))]) (rest := []) (lenOf pd_12 rfl) rfl (by show 2 * 0 + _ ≤ _; exact Nat.le_of_eq rfl) (hb hby d4_5) (fun _ _ => ⟨rfl, e1407, (by decide : 0 + 0 ≤ _), (by decide : 0 + 0 ≤ _)⟩)
  dsimp only [Pt.U, Pt.locs, Pt.cells, Pt.slots] at X1409 l1409 y1409 z1409 st1409 hQ1409
  replace l1409 := l1409.symm
  replace y1409 : 0 = k1409 := y1409.symm
  replace z1409 : 0 = n1409 := z1409.symm
  subst l1409 y1409 z1409
  obtain ⟨rfl, M1409, e1409⟩ := hQ1409
  have N1409 := Fr.app N0 M1409
  have pre1410 : ∀ t, Steps p.tables e below (T1409.setTop (mkF m 8 #[rv b1007, iv (2 : Int32)] [(.int (2 : Int32))])) t → Steps p.tables e below (s₁.setTop (entryFrame m #[(.ref b1007), (.int (2 : Int32))] 2)) t := fun t kt => pre1408 _ (st1409 _ kt)
  have pre1411 : ∀ t, Steps p.tables e below (T1409.setTop (mkF m 10 #[rv b1007, iv (2 : Int32)] [(.ref b1007)])) t → Steps p.tables e below (s₁.setTop (entryFrame m #[(.ref b1007), (.int (2 : Int32))] 2)) t := fun t kt => by
    refine pre1410 _ ?_
    show Steps p.tables e below (T1409.setTop (mkF m 8 #[rv b1007, iv (2 : Int32)] [(.int (2 : Int32))])) _
    refine XS.pop X1409.here hx rfl (hb hby d4_8) rfl rfl ?_
    show Steps p.tables e below (T1409.setTop (mkF m 9 #[rv b1007, iv (2 : Int32)] [])) _
    refine XS.aloadN X1409.here hx rfl (hb hby d4_9) rfl rfl ?_
    exact kt
  obtain ⟨T1412, X1412, e1412, st1412⟩ := getF X1409 hx hZ hown (host := "") (Or.inl (W 11 rfl)) Via.refl e1409 Fi1 (g := (mkF m 10 #[rv b1007, iv (2 : Int32)] [(.ref b1007)])) rfl rfl (hb hby d4_10)
  have pre1413 : ∀ t, Steps p.tables e below (T1412.setTop (mkF m 13 #[rv b1007, iv (2 : Int32)] [(.ref b51_1013)])) t → Steps p.tables e below (s₁.setTop (entryFrame m #[(.ref b1007), (.int (2 : Int32))] 2)) t := fun t kt => pre1411 _ (st1412 _ kt)
  have pre1415 : ∀ t, Steps p.tables e below (T1412.setTop (mkF m 17 #[rv b1007, iv (2 : Int32)] [(.int (0 : Int32)), (.ref b51_1013)])) t → Steps p.tables e below (s₁.setTop (entryFrame m #[(.ref b1007), (.int (2 : Int32))] 2)) t := fun t kt => by
    refine pre1413 _ ?_
    show Steps p.tables e below (T1412.setTop (mkF m 13 #[rv b1007, iv (2 : Int32)] [(.ref b51_1013)])) _
    refine XS.iloadN X1412.here hx rfl (hb hby d4_13) rfl ?_
    show Steps p.tables e below (T1412.setTop (mkF m 14 #[rv b1007, iv (2 : Int32)] [(.int (2 : Int32)), (.ref b51_1013)])) _
    refine X1412.ldcInt hx hown (mvT hZ (W 20 rfl)) (g := (mkF m 14 #[rv b1007, iv (2 : Int32)] [(.int (2 : Int32)), (.ref b51_1013)])) rfl (hb hby d4_14) _ ?_
    show Steps p.tables e below (T1412.setTop (mkF m 16 #[rv b1007, iv (2 : Int32)] [(.int (65536 : Int32)), (.int (2 : Int32)), (.ref b51_1013)])) _
    refine XS.idiv X1412.here hx rfl (hb hby d4_16) rfl (by decide) ?_
    show  Steps p.tables e below (T1412.setTop (mkF m 17 #[rv b1007, iv (2 : Int32)] [(.int ((2 : Int32) / (65536 : Int32))), (.ref b51_1013)])) _
    rw [(by decide : (((2 : Int32) / (65536 : Int32)) : Int32) = (0 : Int32))]
    exact kt
  obtain ⟨c1414, Ar1414, q1414, S1414, M1414, H1414, G1414⟩ := id Fi0
  have i1414 : ¬ ((0 : Int32) < 0 ∨ c1414.slots.size ≤ ((0 : Int32)).toNatClampNeg) := inb_of S1414 ⟨by decide, by decide⟩
  have t1414 : c1414.slots[((0 : Int32)).toNatClampNeg]? = some (.ref b221_1016) := Has.at H1414 i1414 rfl
  have pre1417 : ∀ t, Steps p.tables e below (T1412.setTop (mkF m 22 #[rv b1007, iv (2 : Int32)] [(.int (2 : Int32)), (.ref b221_1016)])) t → Steps p.tables e below (s₁.setTop (entryFrame m #[(.ref b1007), (.int (2 : Int32))] 2)) t := fun t kt => by
    refine pre1415 _ ?_
    show Steps p.tables e below (T1412.setTop (mkF m 17 #[rv b1007, iv (2 : Int32)] [(.int (0 : Int32)), (.ref b51_1013)])) _
    refine X1412.aaload hx (j := (0 : Int32)) (v := (.ref b221_1016)) (by rw [e1412]; exact Ar1414.1) (State.isArrayOf_alike hZ.alike Ar1414.2.1) rfl Ar1414.2.2 i1414 t1414 (g := (mkF m 17 #[rv b1007, iv (2 : Int32)] [(.int (0 : Int32)), (.ref b51_1013)])) rfl rfl (hb hby d4_17) _ ?_
    show Steps p.tables e below (T1412.setTop (mkF m 18 #[rv b1007, iv (2 : Int32)] [(.ref b221_1016)])) _
    refine XS.iloadN X1412.here hx rfl (hb hby d4_18) rfl ?_
    show Steps p.tables e below (T1412.setTop (mkF m 19 #[rv b1007, iv (2 : Int32)] [(.int (2 : Int32)), (.ref b221_1016)])) _
    refine X1412.ldcInt hx hown (mvT hZ (W 20 rfl)) (g := (mkF m 19 #[rv b1007, iv (2 : Int32)] [(.int (2 : Int32)), (.ref b221_1016)])) rfl (hb hby d4_19) _ ?_
    show Steps p.tables e below (T1412.setTop (mkF m 21 #[rv b1007, iv (2 : Int32)] [(.int (65536 : Int32)), (.int (2 : Int32)), (.ref b221_1016)])) _
    refine XS.irem X1412.here hx rfl (hb hby d4_21) rfl (by decide) ?_
    show  Steps p.tables e below (T1412.setTop (mkF m 22 #[rv b1007, iv (2 : Int32)] [(.int ((2 : Int32) - ((2 : Int32) / (65536 : Int32)) * (65536 : Int32))), (.ref b221_1016)])) _
    rw [(by decide : (((2 : Int32) - ((2 : Int32) / (65536 : Int32)) * (65536 : Int32)) : Int32) = (2 : Int32))]
    exact kt
  obtain ⟨c1416, Ar1416, q1416, S1416, M1416, H1416, G1416⟩ := id Fi2
  have i1416 : ¬ ((2 : Int32) < 0 ∨ c1416.slots.size ≤ ((2 : Int32)).toNatClampNeg) := inb_of S1416 ⟨by decide, by decide⟩
  have t1416 : c1416.slots[((2 : Int32)).toNatClampNeg]? = some (.int p2) := Has.at H1416 i1416 rfl
  have pre1418 : ∀ t, Steps p.tables e below (T1412.setTop (mkF m 23 #[rv b1007, iv (2 : Int32)] [(.int p2)])) t → Steps p.tables e below (s₁.setTop (entryFrame m #[(.ref b1007), (.int (2 : Int32))] 2)) t := fun t kt => by
    refine pre1417 _ ?_
    show Steps p.tables e below (T1412.setTop (mkF m 22 #[rv b1007, iv (2 : Int32)] [(.int (2 : Int32)), (.ref b221_1016)])) _
    refine X1412.iaload hx (j := (2 : Int32)) (v := (.int p2)) (by rw [e1412]; exact Ar1416.1) (State.isArrayOf_alike hZ.alike Ar1416.2.1) Ar1416.2.2 i1416 t1416 (g := (mkF m 22 #[rv b1007, iv (2 : Int32)] [(.int (2 : Int32)), (.ref b221_1016)])) rfl rfl (hb hby d4_22) _ ?_
    exact kt
  obtain ⟨fs, hr, hrun, hended, hW, hsame⟩ := X1412.leave (v := some (.int p2)) (fun h => by rw [Bd.returns] at h; cases h)
  refine ⟨_, _, pre1418 _ (retI X1412 hx Bd.returns (hb hby d4_23) hr), hrun, hended, _, _, rfl, ?_, ⟨_, rfl⟩, hW, hsame.mono (by decide) (by decide)⟩
  show Q_get4_9 Z b1007 k51_1013 b51_1013 b221_1016 p0 p1 p2 p3 k221_1016 h0 n0 _ T1412.heap _
  rw [e1412]
  exact ⟨rfl, N1409, rfl⟩
def Q_law (Z : State) (p0 : Int32) (p1 : Int32) (p2 : Int32) (p3 : Int32) (p4 : Int32) (p5 : Int32) (h0 : Heap) (n0 : Nat) (v : Option Value) (h : Heap) (L : List Loc) : Prop := v = some (.int (1 : Int32)) ∧ Fr n0 L
set_option maxRecDepth 65536 in
set_option maxHeartbeats 40000000 in
theorem rm_law (l : Launch) (Z : State) (a0 : Array Value) (hw : ∀ d ∈ tables_1, d.before a0 Z = true) (ws : List Jvm.Cond) (p0 : Int32) (p1 : Int32) (p2 : Int32) (p3 : Int32) (p4 : Int32) (p5 : Int32) (h0 : Heap) (n0 : Nat) (O0 : Old Z n0 h0) :
    MetFree l x (head1 (Jvm.Cond.code x code maxLocals ret :: ws) room_1) (fun a U => a = #[(.int p0), (.int p1), (.int p2), (.int p3), (.int p4), (.int p5)] ∧ Z.Warmed39 U.vm ∧ U.heap = h0) (fun _ _ _ _ _ => True) (fun _ U o U' => ∃ v L, o = .returned v ∧ Q_law Z p0 p1 p2 p3 p4 p5 h0 n0 v U'.heap L ∧ FrameEnd U o U' L room_1.cells room_1.slots) := by
  refine MetFree.of_bodySF (plainFor_of_name pn_0) hisR ?_
  intro p e s m args below meth c s₁ Bd hml0 hP hK
  have W := fun {d : Jvm.Cond} (i : Nat) (q : tables_1[i]? = some d) => hw d (List.mem_of_getElem? q)
  obtain ⟨rfl, hZ, hh⟩ := hP
  have hx := Bd.exec
  have hby := Bd.bytes
  have hml : c.maxLocals = 11 := hml0
  have hown : s.vm.findClass "org/reachwatch/IntBlocksGetPinLaw" = some m.cls := findClass_of_methodNamed Bd.named
  have hnm := (name_of_methodNamed Bd.named Bd.method).1
  have X0 : Stand p l e room_1 s m #[(.int p0), (.int p1), (.int p2), (.int p3), (.int p4), (.int p5)] below meth c s₁ [] 0 0 := Stand.of_body Bd
  have e0 : s₁.heap = h0 := by rw [← hh, Bd.state]; rfl
  have N0 := Fr.nil n0
  have pre0 : ∀ t, Steps p.tables e below (s₁.setTop (mkF m 0 #[iv p0, iv p1, iv p2, iv p3, iv p4, iv p5, .unset, .unset, .unset, .unset, .unset] [])) t → Steps p.tables e below (s₁.setTop (entryFrame m #[(.int p0), (.int p1), (.int p2), (.int p3), (.int p4), (.int p5)] maxLocals)) t := fun t k => castTop (ef_1 m p0 p1 p2 p3 p4 p5) k
  have K0 : Keep h0 h0 [] := Keep.refl h0 []
  have pre1 : ∀ t, Steps p.tables e below (s₁.setTop (mkF m 4 #[iv p0, iv p1, iv p2, iv p3, iv p4, iv p5, .unset, .unset, .unset, .unset, .unset] [(.int (p4 &&& (3 : Int32)))])) t → Steps p.tables e below (s₁.setTop (entryFrame m #[(.int p0), (.int p1), (.int p2), (.int p3), (.int p4), (.int p5)] maxLocals)) t := fun t kt => by
    refine pre0 _ ?_
    show Steps p.tables e below (s₁.setTop (mkF m 0 #[iv p0, iv p1, iv p2, iv p3, iv p4, iv p5, .unset, .unset, .unset, .unset, .unset] [])) _
    refine XS.iload X0.here hx rfl (hb hby at_0) rfl ?_
    show Steps p.tables e below (s₁.setTop (mkF m 2 #[iv p0, iv p1, iv p2, iv p3, iv p4, iv p5, .unset, .unset, .unset, .unset, .unset] [(.int p4)])) _
    refine XS.iconst X0.here hx rfl (hb hby at_2) ?_
    show Steps p.tables e below (s₁.setTop (mkF m 3 #[iv p0, iv p1, iv p2, iv p3, iv p4, iv p5, .unset, .unset, .unset, .unset, .unset] [(.int (3 : Int32)), (.int p4)])) _
    refine XS.iand X0.here hx rfl (hb hby at_3) rfl ?_
    exact kt
  rcases own_mask3 p4 with hv2 | hv2 | hv2 | hv2
  · rw [hv2] at pre1
    have pre3 : ∀ t, Steps p.tables e below (s₁.setTop (mkF m 8 #[iv p0, iv p1, iv p2, iv p3, iv p4, iv p5, iv (1 : Int32), .unset, .unset, .unset, .unset] [])) t → Steps p.tables e below (s₁.setTop (entryFrame m #[(.int p0), (.int p1), (.int p2), (.int p3), (.int p4), (.int p5)] maxLocals)) t := fun t kt => by
      refine pre1 _ ?_
      show Steps p.tables e below (s₁.setTop (mkF m 4 #[iv p0, iv p1, iv p2, iv p3, iv p4, iv p5, .unset, .unset, .unset, .unset, .unset] [(.int (0 : Int32))])) _
      refine XS.iconst X0.here hx rfl (hb hby at_4) ?_
      show Steps p.tables e below (s₁.setTop (mkF m 5 #[iv p0, iv p1, iv p2, iv p3, iv p4, iv p5, .unset, .unset, .unset, .unset, .unset] [(.int (1 : Int32)), (.int (0 : Int32))])) _
      refine XS.iadd X0.here hx rfl (hb hby at_5) rfl ?_
      show  Steps p.tables e below (s₁.setTop (mkF m 6 #[iv p0, iv p1, iv p2, iv p3, iv p4, iv p5, .unset, .unset, .unset, .unset, .unset] [(.int ((0 : Int32) + (1 : Int32)))])) _
      rw [(by decide : (((0 : Int32) + (1 : Int32)) : Int32) = (1 : Int32))]
      show Steps p.tables e below (s₁.setTop (mkF m 6 #[iv p0, iv p1, iv p2, iv p3, iv p4, iv p5, .unset, .unset, .unset, .unset, .unset] [(.int (1 : Int32))])) _
      refine XS.istore X0.here hx rfl (hb hby at_6) rfl (l' := #[iv p0, iv p1, iv p2, iv p3, iv p4, iv p5, iv (1 : Int32), .unset, .unset, .unset, .unset]) rfl ?_
      exact kt
    obtain ⟨T4, h4, X4, e4, E4, A4, D4, -, st4⟩ := newO X0 hx hZ hown (W 0 rfl) (W 1 rfl) (W 2 rfl) e0 (g := (mkF m 8 #[iv p0, iv p1, iv p2, iv p3, iv p4, iv p5, iv (1 : Int32), .unset, .unset, .unset, .unset] [])) rfl (hb hby at_8) (by decide) (by decide)
    obtain ⟨b4, g4⟩ : ∃ z, z = h0.size := ⟨_, rfl⟩
    rw [← g4] at A4 D4 st4
    have pre5 : ∀ t, Steps p.tables e below (T4.setTop (mkF m 11 #[iv p0, iv p1, iv p2, iv p3, iv p4, iv p5, iv (1 : Int32), .unset, .unset, .unset, .unset] [(.ref b4)])) t → Steps p.tables e below (s₁.setTop (entryFrame m #[(.int p0), (.int p1), (.int p2), (.int p3), (.int p4), (.int p5)] maxLocals)) t := fun t kt => pre3 _ (st4 _ kt)
    have O4 := O0.ext E4
    have K4 : Keep h0 h4 [] := K0.ext E4
    have g_b4 : n0 ≤ b4 := Nat.le_trans (Nat.le_trans (Nat.le_of_eq O0.1.symm) O0.2.1) (Nat.le_of_eq g4.symm)
    have sz_b4 : h0.size ≤ b4 := Nat.le_trans K0.1 (Nat.le_of_eq g4.symm)
    have F6 : Exa Z h4 b4 "org/reachwatch/IntBlocks" := A4
    have F7 : Fld Z h4 b4 "org/reachwatch/IntBlocks" "blocks" "[[I" .null := D4 (Or.inl (W 12 rfl)) (ty := (.array (.array .int))) (by decide)
    have F8 : Fld Z h4 b4 "org/reachwatch/IntBlocks" "size" "I" (.int (0 : Int32)) := D4 (Or.inl (W 19 rfl)) (ty := .int) (by decide)
    have pre9 : ∀ t, Steps p.tables e below (T4.setTop (mkF m 12 #[iv p0, iv p1, iv p2, iv p3, iv p4, iv p5, iv (1 : Int32), .unset, .unset, .unset, .unset] [(.ref b4), (.ref b4)])) t → Steps p.tables e below (s₁.setTop (entryFrame m #[(.int p0), (.int p1), (.int p2), (.int p3), (.int p4), (.int p5)] maxLocals)) t := fun t kt => by
      refine pre5 _ ?_
      show Steps p.tables e below (T4.setTop (mkF m 11 #[iv p0, iv p1, iv p2, iv p3, iv p4, iv p5, iv (1 : Int32), .unset, .unset, .unset, .unset] [(.ref b4)])) _
      refine XS.dup X4.here hx rfl (hb hby at_11) rfl rfl ?_
      exact kt
    obtain ⟨_, _, ⟨T10, L10, k10, n10⟩, -, X10, ⟨Lc10, hQ10, l10, y10, z10⟩, st10⟩ := X4.specialBack hx (y := (⟨"org/reachwatch/IntBlocks", "<init>", "()V"⟩ : MethodName)) rfl hown (mvT hZ (W 3 rfl)) (mvT hZ (W 4 rfl)) (mvT hZ (W 5 rfl)) (by decide) (backOf (W := 1) (rm_init1_0 l Z a0 hw [] b4 h4 n0 O4 g_b4 F6 F7 F8) hZ (W 5 rfl) (W 2 rfl) (by decide) (by decide)) (g := (mkF m 12 #[iv p0, iv p1, iv p2, iv p3, iv p4, iv p5, iv (1 : Int32), .unset, .unset, .unset, .unset] [(.ref b4), (.ref b4)])) rfl (by rw [hml]; rfl) (Steps.refl _) (a := b4) (argsL := []) (rest := [(.ref b4)]) (lenOf pd_4 rfl) rfl (by show 2 * 0 + _ ≤ _; exact Nat.le_of_eq rfl) (hb hby at_12) (fun _ _ => ⟨rfl, e4, (by decide : 1 + 1 ≤ _), (by decide : 2 + 1 ≤ _)⟩)
    dsimp only [Pt.U, Pt.locs, Pt.cells, Pt.slots] at X10 l10 y10 z10 st10 hQ10
    replace l10 := l10.symm
    replace y10 : 2 = k10 := y10.symm
    replace z10 : 3 = n10 := z10.symm
    subst l10 y10 z10
    obtain ⟨b51_10, k51_10, rfl, M10, Kc10, O10, J10_0, J10_1, J10_2, J10_3, J10_4, J10_5, P10_0⟩ := hQ10
    obtain ⟨h10, e10⟩ : ∃ z, T10.heap = z := ⟨_, rfl⟩
    rw [e10] at Kc10 O10 J10_0 J10_1 J10_2 J10_4 J10_5
    try rw [e10] at P10_0
    have N10 := Fr.app N0 M10
    have K10 : Keep h0 h10 [] := K4.trans Kc10 (own_all1 (Or.inr sz_b4))
    have pre65 : ∀ t, Steps p.tables e below (T10.setTop (mkF m 15 #[iv p0, iv p1, iv p2, iv p3, iv p4, iv p5, iv (1 : Int32), .unset, .unset, .unset, .unset] [(.ref b4)])) t → Steps p.tables e below (s₁.setTop (entryFrame m #[(.int p0), (.int p1), (.int p2), (.int p3), (.int p4), (.int p5)] maxLocals)) t := fun t kt => pre9 _ (st10.trans kt)
    have sz_b51_10 : h0.size ≤ b51_10 := Nat.le_trans K4.1 P10_0
    have ne_b4_b51_10 : b4 ≠ b51_10 := Nat.ne_of_lt (Nat.lt_of_lt_of_le F6.lt P10_0)
    have g_b51_10 : n0 ≤ b51_10 := Nat.le_trans (Nat.le_trans (Nat.le_of_eq O0.1.symm) O0.2.1) sz_b51_10
    have pre66 : ∀ t, Steps p.tables e below (T10.setTop (mkF m 20 #[iv p0, iv p1, iv p2, iv p3, iv p4, iv p5, iv (1 : Int32), rv b4, .unset, .unset, .unset] [(.int p0), (.ref b4)])) t → Steps p.tables e below (s₁.setTop (entryFrame m #[(.int p0), (.int p1), (.int p2), (.int p3), (.int p4), (.int p5)] maxLocals)) t := fun t kt => by
      refine pre65 _ ?_
      show Steps p.tables e below (T10.setTop (mkF m 15 #[iv p0, iv p1, iv p2, iv p3, iv p4, iv p5, iv (1 : Int32), .unset, .unset, .unset, .unset] [(.ref b4)])) _
      refine XS.astore X10.here hx rfl (hb hby at_15) rfl rfl (l' := #[iv p0, iv p1, iv p2, iv p3, iv p4, iv p5, iv (1 : Int32), rv b4, .unset, .unset, .unset]) rfl ?_
      show Steps p.tables e below (T10.setTop (mkF m 17 #[iv p0, iv p1, iv p2, iv p3, iv p4, iv p5, iv (1 : Int32), rv b4, .unset, .unset, .unset] [])) _
      refine XS.aload X10.here hx rfl (hb hby at_17) rfl rfl ?_
      show Steps p.tables e below (T10.setTop (mkF m 19 #[iv p0, iv p1, iv p2, iv p3, iv p4, iv p5, iv (1 : Int32), rv b4, .unset, .unset, .unset] [(.ref b4)])) _
      refine XS.iloadN X10.here hx rfl (hb hby at_19) rfl ?_
      exact kt
    obtain ⟨cq67, kq67, q67a, q67b, q67c⟩ := isOf hZ e10 J10_0
    obtain ⟨_, _, ⟨T67, L67, k67, n67⟩, -, X67, ⟨Lc67, hQ67, l67, y67, z67⟩, st67⟩ := X10.virtualBack hx (y := (⟨"org/reachwatch/IntBlocks", "add", "(I)V"⟩ : MethodName)) (z := (⟨"org/reachwatch/IntBlocks", "add", "(I)V"⟩ : MethodName)) hown (mvT hZ (W 13 rfl)) (mvT hZ (W 14 rfl)) (notFace_of_selects (args := #[]) (mvT hZ (W 16 rfl))) (mvT hZ (W 16 rfl)) (mvT hZ (W 15 rfl)) (by decide) (backOf (W := 0) (rm_add3_0 l Z a0 hw [] b4 p0 b51_10 k51_10 h10 n0 O10 g_b4 g_b51_10 J10_0 J10_1 J10_2 J10_3 J10_4 J10_5 (fun q => ne_b4_b51_10 q.symm)) hZ (W 17 rfl) (W 2 rfl) (by decide) (by decide)) q67a q67c (g := (mkF m 20 #[iv p0, iv p1, iv p2, iv p3, iv p4, iv p5, iv (1 : Int32), rv b4, .unset, .unset, .unset] [(.int p0), (.ref b4)])) rfl (by rw [hml]; rfl) (Steps.refl _) (argsL := [(.int p0)]) (rest := []) (lenOf pd_6 rfl) rfl (by show 2 * 0 + _ ≤ _; exact Nat.le_of_eq rfl) (hb hby at_20) (fun _ _ => ⟨rfl, e10, (by decide : 2 + 1 ≤ _), (by decide : 3 + 16 ≤ _)⟩)
    dsimp only [Pt.U, Pt.locs, Pt.cells, Pt.slots] at X67 l67 y67 z67 st67 hQ67
    replace l67 := l67.symm
    replace y67 : 3 = k67 := y67.symm
    replace z67 : 19 = n67 := z67.symm
    subst l67 y67 z67
    obtain ⟨b221_67, k221_67, rfl, M67, Kc67, O67, J67_0, J67_1, J67_2, J67_3, J67_4, J67_5, J67_6, P67_0⟩ := hQ67
    obtain ⟨h67, e67⟩ : ∃ z, T67.heap = z := ⟨_, rfl⟩
    rw [e67] at Kc67 O67 J67_0 J67_1 J67_2 J67_3 J67_4 J67_5 J67_6
    try rw [e67] at P67_0
    have N67 := Fr.app N10 M67
    have K67 : Keep h0 h67 [] := K10.trans Kc67 (own_all2 (Or.inr sz_b4) (Or.inr sz_b51_10))
    have pre269 : ∀ t, Steps p.tables e below (T67.setTop (mkF m 23 #[iv p0, iv p1, iv p2, iv p3, iv p4, iv p5, iv (1 : Int32), rv b4, .unset, .unset, .unset] [])) t → Steps p.tables e below (s₁.setTop (entryFrame m #[(.int p0), (.int p1), (.int p2), (.int p3), (.int p4), (.int p5)] maxLocals)) t := fun t kt => pre66 _ (st67.trans kt)
    have sz_b221_67 : h0.size ≤ b221_67 := Nat.le_trans K10.1 P67_0
    have ne_b4_b221_67 : b4 ≠ b221_67 := Nat.ne_of_lt (Nat.lt_of_lt_of_le J10_0.lt P67_0)
    have ne_b51_10_b221_67 : b51_10 ≠ b221_67 := Nat.ne_of_lt (Nat.lt_of_lt_of_le J10_2.lt P67_0)
    have g_b221_67 : n0 ≤ b221_67 := Nat.le_trans (Nat.le_trans (Nat.le_of_eq O0.1.symm) O0.2.1) sz_b221_67
    have pre270 : ∀ t, Steps p.tables e below (T67.setTop (mkF m 67 #[iv p0, iv p1, iv p2, iv p3, iv p4, iv p5, iv (1 : Int32), rv b4, .unset, .unset, .unset] [(.int ((p5 &&& (2147483647 : Int32)) - ((p5 &&& (2147483647 : Int32)) / (1 : Int32)) * (1 : Int32)))])) t → Steps p.tables e below (s₁.setTop (entryFrame m #[(.int p0), (.int p1), (.int p2), (.int p3), (.int p4), (.int p5)] maxLocals)) t := fun t kt => by
      refine pre269 _ ?_
      show Steps p.tables e below (T67.setTop (mkF m 23 #[iv p0, iv p1, iv p2, iv p3, iv p4, iv p5, iv (1 : Int32), rv b4, .unset, .unset, .unset] [])) _
      refine XS.iload X67.here hx rfl (hb hby at_23) rfl ?_
      show Steps p.tables e below (T67.setTop (mkF m 25 #[iv p0, iv p1, iv p2, iv p3, iv p4, iv p5, iv (1 : Int32), rv b4, .unset, .unset, .unset] [(.int (1 : Int32))])) _
      refine XS.iconst X67.here hx rfl (hb hby at_25) ?_
      show Steps p.tables e below (T67.setTop (mkF m 26 #[iv p0, iv p1, iv p2, iv p3, iv p4, iv p5, iv (1 : Int32), rv b4, .unset, .unset, .unset] [(.int (2 : Int32)), (.int (1 : Int32))])) _
      refine XS.icmpYes X67.here hx rfl (pc0 := 26) (pc' := 35) rfl (hb hby at_26) rfl (XT.ii_lt_t (by decide)) (by decide) (by decide) ?_
      show Steps p.tables e below (T67.setTop (mkF m 35 #[iv p0, iv p1, iv p2, iv p3, iv p4, iv p5, iv (1 : Int32), rv b4, .unset, .unset, .unset] [])) _
      refine XS.iload X67.here hx rfl (hb hby at_35) rfl ?_
      show Steps p.tables e below (T67.setTop (mkF m 37 #[iv p0, iv p1, iv p2, iv p3, iv p4, iv p5, iv (1 : Int32), rv b4, .unset, .unset, .unset] [(.int (1 : Int32))])) _
      refine XS.iconst X67.here hx rfl (hb hby at_37) ?_
      show Steps p.tables e below (T67.setTop (mkF m 38 #[iv p0, iv p1, iv p2, iv p3, iv p4, iv p5, iv (1 : Int32), rv b4, .unset, .unset, .unset] [(.int (3 : Int32)), (.int (1 : Int32))])) _
      refine XS.icmpYes X67.here hx rfl (pc0 := 38) (pc' := 47) rfl (hb hby at_38) rfl (XT.ii_lt_t (by decide)) (by decide) (by decide) ?_
      show Steps p.tables e below (T67.setTop (mkF m 47 #[iv p0, iv p1, iv p2, iv p3, iv p4, iv p5, iv (1 : Int32), rv b4, .unset, .unset, .unset] [])) _
      refine XS.iload X67.here hx rfl (hb hby at_47) rfl ?_
      show Steps p.tables e below (T67.setTop (mkF m 49 #[iv p0, iv p1, iv p2, iv p3, iv p4, iv p5, iv (1 : Int32), rv b4, .unset, .unset, .unset] [(.int (1 : Int32))])) _
      refine XS.iconst X67.here hx rfl (hb hby at_49) ?_
      show Steps p.tables e below (T67.setTop (mkF m 50 #[iv p0, iv p1, iv p2, iv p3, iv p4, iv p5, iv (1 : Int32), rv b4, .unset, .unset, .unset] [(.int (4 : Int32)), (.int (1 : Int32))])) _
      refine XS.icmpYes X67.here hx rfl (pc0 := 50) (pc' := 59) rfl (hb hby at_50) rfl (XT.ii_lt_t (by decide)) (by decide) (by decide) ?_
      show Steps p.tables e below (T67.setTop (mkF m 59 #[iv p0, iv p1, iv p2, iv p3, iv p4, iv p5, iv (1 : Int32), rv b4, .unset, .unset, .unset] [])) _
      refine XS.iload X67.here hx rfl (hb hby at_59) rfl ?_
      show Steps p.tables e below (T67.setTop (mkF m 61 #[iv p0, iv p1, iv p2, iv p3, iv p4, iv p5, iv (1 : Int32), rv b4, .unset, .unset, .unset] [(.int p5)])) _
      refine X67.ldcInt hx hown (mvT hZ (W 23 rfl)) (g := (mkF m 61 #[iv p0, iv p1, iv p2, iv p3, iv p4, iv p5, iv (1 : Int32), rv b4, .unset, .unset, .unset] [(.int p5)])) rfl (hb hby at_61) _ ?_
      show Steps p.tables e below (T67.setTop (mkF m 63 #[iv p0, iv p1, iv p2, iv p3, iv p4, iv p5, iv (1 : Int32), rv b4, .unset, .unset, .unset] [(.int (2147483647 : Int32)), (.int p5)])) _
      refine XS.iand X67.here hx rfl (hb hby at_63) rfl ?_
      show Steps p.tables e below (T67.setTop (mkF m 64 #[iv p0, iv p1, iv p2, iv p3, iv p4, iv p5, iv (1 : Int32), rv b4, .unset, .unset, .unset] [(.int (p5 &&& (2147483647 : Int32)))])) _
      refine XS.iload X67.here hx rfl (hb hby at_64) rfl ?_
      show Steps p.tables e below (T67.setTop (mkF m 66 #[iv p0, iv p1, iv p2, iv p3, iv p4, iv p5, iv (1 : Int32), rv b4, .unset, .unset, .unset] [(.int (1 : Int32)), (.int (p5 &&& (2147483647 : Int32)))])) _
      refine XS.irem X67.here hx rfl (hb hby at_66) rfl (by decide) ?_
      exact kt
    rcases own_rem1 p5 with hv271
    · rw [hv271] at pre270
      have pre272 : ∀ t, Steps p.tables e below (T67.setTop (mkF m 73 #[iv p0, iv p1, iv p2, iv p3, iv p4, iv p5, iv (1 : Int32), rv b4, iv (0 : Int32), .unset, .unset] [(.int (0 : Int32)), (.ref b4)])) t → Steps p.tables e below (s₁.setTop (entryFrame m #[(.int p0), (.int p1), (.int p2), (.int p3), (.int p4), (.int p5)] maxLocals)) t := fun t kt => by
        refine pre270 _ ?_
        show Steps p.tables e below (T67.setTop (mkF m 67 #[iv p0, iv p1, iv p2, iv p3, iv p4, iv p5, iv (1 : Int32), rv b4, .unset, .unset, .unset] [(.int (0 : Int32))])) _
        refine XS.istore X67.here hx rfl (hb hby at_67) rfl (l' := #[iv p0, iv p1, iv p2, iv p3, iv p4, iv p5, iv (1 : Int32), rv b4, iv (0 : Int32), .unset, .unset]) rfl ?_
        show Steps p.tables e below (T67.setTop (mkF m 69 #[iv p0, iv p1, iv p2, iv p3, iv p4, iv p5, iv (1 : Int32), rv b4, iv (0 : Int32), .unset, .unset] [])) _
        refine XS.aload X67.here hx rfl (hb hby at_69) rfl rfl ?_
        show Steps p.tables e below (T67.setTop (mkF m 71 #[iv p0, iv p1, iv p2, iv p3, iv p4, iv p5, iv (1 : Int32), rv b4, iv (0 : Int32), .unset, .unset] [(.ref b4)])) _
        refine XS.iload X67.here hx rfl (hb hby at_71) rfl ?_
        exact kt
      obtain ⟨cq273, kq273, q273a, q273b, q273c⟩ := isOf hZ e67 J67_0
      obtain ⟨_, _, ⟨T273, L273, k273, n273⟩, -, X273, ⟨Lc273, hQ273, l273, y273, z273⟩, st273⟩ := X67.virtualBack hx (y := (⟨"org/reachwatch/IntBlocks", "get", "(I)I"⟩ : MethodName)) (z := (⟨"org/reachwatch/IntBlocks", "get", "(I)I"⟩ : MethodName)) hown (mvT hZ (W 24 rfl)) (mvT hZ (W 25 rfl)) (notFace_of_selects (args := #[]) (mvT hZ (W 27 rfl))) (mvT hZ (W 27 rfl)) (mvT hZ (W 26 rfl)) (by decide) (backOf (W := 0) (rm_get4_0 l Z a0 hw [] b4 k51_10 b51_10 b221_67 p0 k221_67 h67 n0 O67 J67_2 J67_4 J67_5 J67_6) hZ (W 28 rfl) (W 2 rfl) (by decide) (by decide)) q273a q273c (g := (mkF m 73 #[iv p0, iv p1, iv p2, iv p3, iv p4, iv p5, iv (1 : Int32), rv b4, iv (0 : Int32), .unset, .unset] [(.int (0 : Int32)), (.ref b4)])) rfl (by rw [hml]; rfl) (Steps.refl _) (argsL := [(.int (0 : Int32))]) (rest := []) (lenOf pd_14 rfl) rfl (by show 2 * 0 + _ ≤ _; exact Nat.le_of_eq rfl) (hb hby at_73) (fun _ _ => ⟨rfl, e67, (by decide : 3 + 0 ≤ _), (by decide : 19 + 0 ≤ _)⟩)
      dsimp only [Pt.U, Pt.locs, Pt.cells, Pt.slots] at X273 l273 y273 z273 st273 hQ273
      replace l273 := l273.symm
      replace y273 : 3 = k273 := y273.symm
      replace z273 : 19 = n273 := z273.symm
      subst l273 y273 z273
      obtain ⟨rfl, M273, e273⟩ := hQ273
      have N273 := Fr.app N67 M273
      have pre325 : ∀ t, Steps p.tables e below (T273.setTop (mkF m 76 #[iv p0, iv p1, iv p2, iv p3, iv p4, iv p5, iv (1 : Int32), rv b4, iv (0 : Int32), .unset, .unset] [(.int p0)])) t → Steps p.tables e below (s₁.setTop (entryFrame m #[(.int p0), (.int p1), (.int p2), (.int p3), (.int p4), (.int p5)] maxLocals)) t := fun t kt => pre272 _ (st273.trans kt)
      have pre326 : ∀ t, Steps p.tables e below (T273.setTop (mkF m 84 #[iv p0, iv p1, iv p2, iv p3, iv p4, iv p5, iv (1 : Int32), rv b4, iv (0 : Int32), iv p0, .unset] [(.int (0 : Int32)), (.ref b4)])) t → Steps p.tables e below (s₁.setTop (entryFrame m #[(.int p0), (.int p1), (.int p2), (.int p3), (.int p4), (.int p5)] maxLocals)) t := fun t kt => by
        refine pre325 _ ?_
        show Steps p.tables e below (T273.setTop (mkF m 76 #[iv p0, iv p1, iv p2, iv p3, iv p4, iv p5, iv (1 : Int32), rv b4, iv (0 : Int32), .unset, .unset] [(.int p0)])) _
        refine XS.istore X273.here hx rfl (hb hby at_76) rfl (l' := #[iv p0, iv p1, iv p2, iv p3, iv p4, iv p5, iv (1 : Int32), rv b4, iv (0 : Int32), iv p0, .unset]) rfl ?_
        show Steps p.tables e below (T273.setTop (mkF m 78 #[iv p0, iv p1, iv p2, iv p3, iv p4, iv p5, iv (1 : Int32), rv b4, iv (0 : Int32), iv p0, .unset] [])) _
        refine XS.aload X273.here hx rfl (hb hby at_78) rfl rfl ?_
        show Steps p.tables e below (T273.setTop (mkF m 80 #[iv p0, iv p1, iv p2, iv p3, iv p4, iv p5, iv (1 : Int32), rv b4, iv (0 : Int32), iv p0, .unset] [(.ref b4)])) _
        refine XS.iload X273.here hx rfl (hb hby at_80) rfl ?_
        show Steps p.tables e below (T273.setTop (mkF m 82 #[iv p0, iv p1, iv p2, iv p3, iv p4, iv p5, iv (1 : Int32), rv b4, iv (0 : Int32), iv p0, .unset] [(.int (1 : Int32)), (.ref b4)])) _
        refine XS.iconst X273.here hx rfl (hb hby at_82) ?_
        show Steps p.tables e below (T273.setTop (mkF m 83 #[iv p0, iv p1, iv p2, iv p3, iv p4, iv p5, iv (1 : Int32), rv b4, iv (0 : Int32), iv p0, .unset] [(.int (1 : Int32)), (.int (1 : Int32)), (.ref b4)])) _
        refine XS.isub X273.here hx rfl (hb hby at_83) rfl ?_
        show  Steps p.tables e below (T273.setTop (mkF m 84 #[iv p0, iv p1, iv p2, iv p3, iv p4, iv p5, iv (1 : Int32), rv b4, iv (0 : Int32), iv p0, .unset] [(.int ((1 : Int32) - (1 : Int32))), (.ref b4)])) _
        rw [(by decide : (((1 : Int32) - (1 : Int32)) : Int32) = (0 : Int32))]
        exact kt
      obtain ⟨cq327, kq327, q327a, q327b, q327c⟩ := isOf hZ e273 J67_0
      obtain ⟨_, _, ⟨T327, L327, k327, n327⟩, -, X327, ⟨Lc327, hQ327, l327, y327, z327⟩, st327⟩ := X273.virtualBack hx (y := (⟨"org/reachwatch/IntBlocks", "get", "(I)I"⟩ : MethodName)) (z := (⟨"org/reachwatch/IntBlocks", "get", "(I)I"⟩ : MethodName)) hown (mvT hZ (W 24 rfl)) (mvT hZ (W 25 rfl)) (notFace_of_selects (args := #[]) (mvT hZ (W 27 rfl))) (mvT hZ (W 27 rfl)) (mvT hZ (W 26 rfl)) (by decide) (backOf (W := 0) (rm_get4_0 l Z a0 hw [] b4 k51_10 b51_10 b221_67 p0 k221_67 h67 n0 O67 J67_2 J67_4 J67_5 J67_6) hZ (W 28 rfl) (W 2 rfl) (by decide) (by decide)) q327a q327c (g := (mkF m 84 #[iv p0, iv p1, iv p2, iv p3, iv p4, iv p5, iv (1 : Int32), rv b4, iv (0 : Int32), iv p0, .unset] [(.int (0 : Int32)), (.ref b4)])) rfl (by rw [hml]; rfl) (Steps.refl _) (argsL := [(.int (0 : Int32))]) (rest := []) (lenOf pd_14 rfl) rfl (by show 2 * 0 + _ ≤ _; exact Nat.le_of_eq rfl) (hb hby at_84) (fun _ _ => ⟨rfl, e273, (by decide : 3 + 0 ≤ _), (by decide : 19 + 0 ≤ _)⟩)
      dsimp only [Pt.U, Pt.locs, Pt.cells, Pt.slots] at X327 l327 y327 z327 st327 hQ327
      replace l327 := l327.symm
      replace y327 : 3 = k327 := y327.symm
      replace z327 : 19 = n327 := z327.symm
      subst l327 y327 z327
      obtain ⟨rfl, M327, e327⟩ := hQ327
      have N327 := Fr.app N273 M327
      have pre328 : ∀ t, Steps p.tables e below (T327.setTop (mkF m 87 #[iv p0, iv p1, iv p2, iv p3, iv p4, iv p5, iv (1 : Int32), rv b4, iv (0 : Int32), iv p0, .unset] [(.int p0)])) t → Steps p.tables e below (s₁.setTop (entryFrame m #[(.int p0), (.int p1), (.int p2), (.int p3), (.int p4), (.int p5)] maxLocals)) t := fun t kt => pre326 _ (st327.trans kt)
      have pre329 : ∀ t, Steps p.tables e below (T327.setTop (mkF m 97 #[iv p0, iv p1, iv p2, iv p3, iv p4, iv p5, iv (1 : Int32), rv b4, iv (0 : Int32), iv p0, iv p0] [(.int p3), (.int p2), (.int p1), (.int p0), (.int (0 : Int32)), (.int p0)])) t → Steps p.tables e below (s₁.setTop (entryFrame m #[(.int p0), (.int p1), (.int p2), (.int p3), (.int p4), (.int p5)] maxLocals)) t := fun t kt => by
        refine pre328 _ ?_
        show Steps p.tables e below (T327.setTop (mkF m 87 #[iv p0, iv p1, iv p2, iv p3, iv p4, iv p5, iv (1 : Int32), rv b4, iv (0 : Int32), iv p0, .unset] [(.int p0)])) _
        refine XS.istore X327.here hx rfl (hb hby at_87) rfl (l' := #[iv p0, iv p1, iv p2, iv p3, iv p4, iv p5, iv (1 : Int32), rv b4, iv (0 : Int32), iv p0, iv p0]) rfl ?_
        show Steps p.tables e below (T327.setTop (mkF m 89 #[iv p0, iv p1, iv p2, iv p3, iv p4, iv p5, iv (1 : Int32), rv b4, iv (0 : Int32), iv p0, iv p0] [])) _
        refine XS.iload X327.here hx rfl (hb hby at_89) rfl ?_
        show Steps p.tables e below (T327.setTop (mkF m 91 #[iv p0, iv p1, iv p2, iv p3, iv p4, iv p5, iv (1 : Int32), rv b4, iv (0 : Int32), iv p0, iv p0] [(.int p0)])) _
        refine XS.iload X327.here hx rfl (hb hby at_91) rfl ?_
        show Steps p.tables e below (T327.setTop (mkF m 93 #[iv p0, iv p1, iv p2, iv p3, iv p4, iv p5, iv (1 : Int32), rv b4, iv (0 : Int32), iv p0, iv p0] [(.int (0 : Int32)), (.int p0)])) _
        refine XS.iloadN X327.here hx rfl (hb hby at_93) rfl ?_
        show Steps p.tables e below (T327.setTop (mkF m 94 #[iv p0, iv p1, iv p2, iv p3, iv p4, iv p5, iv (1 : Int32), rv b4, iv (0 : Int32), iv p0, iv p0] [(.int p0), (.int (0 : Int32)), (.int p0)])) _
        refine XS.iloadN X327.here hx rfl (hb hby at_94) rfl ?_
        show Steps p.tables e below (T327.setTop (mkF m 95 #[iv p0, iv p1, iv p2, iv p3, iv p4, iv p5, iv (1 : Int32), rv b4, iv (0 : Int32), iv p0, iv p0] [(.int p1), (.int p0), (.int (0 : Int32)), (.int p0)])) _
        refine XS.iloadN X327.here hx rfl (hb hby at_95) rfl ?_
        show Steps p.tables e below (T327.setTop (mkF m 96 #[iv p0, iv p1, iv p2, iv p3, iv p4, iv p5, iv (1 : Int32), rv b4, iv (0 : Int32), iv p0, iv p0] [(.int p2), (.int p1), (.int p0), (.int (0 : Int32)), (.int p0)])) _
        refine XS.iloadN X327.here hx rfl (hb hby at_96) rfl ?_
        exact kt
      obtain ⟨_, _, ⟨T330, L330, k330, n330⟩, -, X330, ⟨Lc330, hQ330, l330, y330, z330⟩, st330⟩ := Jvm.LawKit.callS X327 hx (y := (⟨"org/reachwatch/IntBlocksGetPinLaw", "ref", "(IIIII)I"⟩ : MethodName)) hown (mvT hZ (W 37 rfl)) (mvT hZ (W 38 rfl)) (mvT hZ (W 39 rfl)) (mvT hZ (W 40 rfl)) (by decide) (backOf (W := 1) (rm_ref7_0 l Z a0 hw [] p0 p1 p2 p3 h67 n0 O67) hZ (W 40 rfl) (W 39 rfl) (by decide) (by decide)) (g := (mkF m 97 #[iv p0, iv p1, iv p2, iv p3, iv p4, iv p5, iv (1 : Int32), rv b4, iv (0 : Int32), iv p0, iv p0] [(.int p3), (.int p2), (.int p1), (.int p0), (.int (0 : Int32)), (.int p0)])) rfl (by rw [hml]; rfl) (argsL := [(.int (0 : Int32)), (.int p0), (.int p1), (.int p2), (.int p3)]) (rest := [(.int p0)]) (lenOf pd_16 rfl) rfl (by show 2 * 0 + _ ≤ _; exact Nat.le_of_eq rfl) (hb hby at_97) (fun _ _ => ⟨rfl, e327, (by decide : 3 + 0 ≤ _), (by decide : 19 + 0 ≤ _)⟩)
      dsimp only [Pt.U, Pt.locs, Pt.cells, Pt.slots] at X330 l330 y330 z330 st330 hQ330
      replace l330 := l330.symm
      replace y330 : 3 = k330 := y330.symm
      replace z330 : 19 = n330 := z330.symm
      subst l330 y330 z330
      obtain ⟨rfl, M330, e330⟩ := hQ330
      have N330 := Fr.app N327 M330
      have pre334 : ∀ t, Steps p.tables e below (T330.setTop (mkF m 100 #[iv p0, iv p1, iv p2, iv p3, iv p4, iv p5, iv (1 : Int32), rv b4, iv (0 : Int32), iv p0, iv p0] [(.int p0), (.int p0)])) t → Steps p.tables e below (s₁.setTop (entryFrame m #[(.int p0), (.int p1), (.int p2), (.int p3), (.int p4), (.int p5)] maxLocals)) t := fun t kt => pre329 _ (st330 _ kt)
      have pre335 : ∀ t, Steps p.tables e below (T330.setTop (mkF m 113 #[iv p0, iv p1, iv p2, iv p3, iv p4, iv p5, iv (1 : Int32), rv b4, iv (0 : Int32), iv p0, iv p0] [(.int p3), (.int p2), (.int p1), (.int p0), (.int (0 : Int32)), (.int p0)])) t → Steps p.tables e below (s₁.setTop (entryFrame m #[(.int p0), (.int p1), (.int p2), (.int p3), (.int p4), (.int p5)] maxLocals)) t := fun t kt => by
        refine pre334 _ ?_
        show Steps p.tables e below (T330.setTop (mkF m 100 #[iv p0, iv p1, iv p2, iv p3, iv p4, iv p5, iv (1 : Int32), rv b4, iv (0 : Int32), iv p0, iv p0] [(.int p0), (.int p0)])) _
        refine XS.icmpNo X330.here hx rfl (hb hby at_100) rfl (XT.ii_ne_f rfl) ?_
        show Steps p.tables e below (T330.setTop (mkF m 103 #[iv p0, iv p1, iv p2, iv p3, iv p4, iv p5, iv (1 : Int32), rv b4, iv (0 : Int32), iv p0, iv p0] [])) _
        refine XS.iload X330.here hx rfl (hb hby at_103) rfl ?_
        show Steps p.tables e below (T330.setTop (mkF m 105 #[iv p0, iv p1, iv p2, iv p3, iv p4, iv p5, iv (1 : Int32), rv b4, iv (0 : Int32), iv p0, iv p0] [(.int p0)])) _
        refine XS.iload X330.here hx rfl (hb hby at_105) rfl ?_
        show Steps p.tables e below (T330.setTop (mkF m 107 #[iv p0, iv p1, iv p2, iv p3, iv p4, iv p5, iv (1 : Int32), rv b4, iv (0 : Int32), iv p0, iv p0] [(.int (1 : Int32)), (.int p0)])) _
        refine XS.iconst X330.here hx rfl (hb hby at_107) ?_
        show Steps p.tables e below (T330.setTop (mkF m 108 #[iv p0, iv p1, iv p2, iv p3, iv p4, iv p5, iv (1 : Int32), rv b4, iv (0 : Int32), iv p0, iv p0] [(.int (1 : Int32)), (.int (1 : Int32)), (.int p0)])) _
        refine XS.isub X330.here hx rfl (hb hby at_108) rfl ?_
        show  Steps p.tables e below (T330.setTop (mkF m 109 #[iv p0, iv p1, iv p2, iv p3, iv p4, iv p5, iv (1 : Int32), rv b4, iv (0 : Int32), iv p0, iv p0] [(.int ((1 : Int32) - (1 : Int32))), (.int p0)])) _
        rw [(by decide : (((1 : Int32) - (1 : Int32)) : Int32) = (0 : Int32))]
        show Steps p.tables e below (T330.setTop (mkF m 109 #[iv p0, iv p1, iv p2, iv p3, iv p4, iv p5, iv (1 : Int32), rv b4, iv (0 : Int32), iv p0, iv p0] [(.int (0 : Int32)), (.int p0)])) _
        refine XS.iloadN X330.here hx rfl (hb hby at_109) rfl ?_
        show Steps p.tables e below (T330.setTop (mkF m 110 #[iv p0, iv p1, iv p2, iv p3, iv p4, iv p5, iv (1 : Int32), rv b4, iv (0 : Int32), iv p0, iv p0] [(.int p0), (.int (0 : Int32)), (.int p0)])) _
        refine XS.iloadN X330.here hx rfl (hb hby at_110) rfl ?_
        show Steps p.tables e below (T330.setTop (mkF m 111 #[iv p0, iv p1, iv p2, iv p3, iv p4, iv p5, iv (1 : Int32), rv b4, iv (0 : Int32), iv p0, iv p0] [(.int p1), (.int p0), (.int (0 : Int32)), (.int p0)])) _
        refine XS.iloadN X330.here hx rfl (hb hby at_111) rfl ?_
        show Steps p.tables e below (T330.setTop (mkF m 112 #[iv p0, iv p1, iv p2, iv p3, iv p4, iv p5, iv (1 : Int32), rv b4, iv (0 : Int32), iv p0, iv p0] [(.int p2), (.int p1), (.int p0), (.int (0 : Int32)), (.int p0)])) _
        refine XS.iloadN X330.here hx rfl (hb hby at_112) rfl ?_
        exact kt
      obtain ⟨_, _, ⟨T336, L336, k336, n336⟩, -, X336, ⟨Lc336, hQ336, l336, y336, z336⟩, st336⟩ := Jvm.LawKit.callS X330 hx (y := (⟨"org/reachwatch/IntBlocksGetPinLaw", "ref", "(IIIII)I"⟩ : MethodName)) hown (mvT hZ (W 37 rfl)) (mvT hZ (W 38 rfl)) (mvT hZ (W 39 rfl)) (mvT hZ (W 40 rfl)) (by decide) (backOf (W := 1) (rm_ref7_0 l Z a0 hw [] p0 p1 p2 p3 h67 n0 O67) hZ (W 40 rfl) (W 39 rfl) (by decide) (by decide)) (g := (mkF m 113 #[iv p0, iv p1, iv p2, iv p3, iv p4, iv p5, iv (1 : Int32), rv b4, iv (0 : Int32), iv p0, iv p0] [(.int p3), (.int p2), (.int p1), (.int p0), (.int (0 : Int32)), (.int p0)])) rfl (by rw [hml]; rfl) (argsL := [(.int (0 : Int32)), (.int p0), (.int p1), (.int p2), (.int p3)]) (rest := [(.int p0)]) (lenOf pd_16 rfl) rfl (by show 2 * 0 + _ ≤ _; exact Nat.le_of_eq rfl) (hb hby at_113) (fun _ _ => ⟨rfl, e330, (by decide : 3 + 0 ≤ _), (by decide : 19 + 0 ≤ _)⟩)
      dsimp only [Pt.U, Pt.locs, Pt.cells, Pt.slots] at X336 l336 y336 z336 st336 hQ336
      replace l336 := l336.symm
      replace y336 : 3 = k336 := y336.symm
      replace z336 : 19 = n336 := z336.symm
      subst l336 y336 z336
      obtain ⟨rfl, M336, e336⟩ := hQ336
      have N336 := Fr.app N330 M336
      have pre337 : ∀ t, Steps p.tables e below (T336.setTop (mkF m 116 #[iv p0, iv p1, iv p2, iv p3, iv p4, iv p5, iv (1 : Int32), rv b4, iv (0 : Int32), iv p0, iv p0] [(.int p0), (.int p0)])) t → Steps p.tables e below (s₁.setTop (entryFrame m #[(.int p0), (.int p1), (.int p2), (.int p3), (.int p4), (.int p5)] maxLocals)) t := fun t kt => pre335 _ (st336 _ kt)
      have pre338 : ∀ t, Steps p.tables e below (T336.setTop (mkF m 124 #[iv p0, iv p1, iv p2, iv p3, iv p4, iv p5, iv (1 : Int32), rv b4, iv (0 : Int32), iv p0, iv p0] [(.int (1 : Int32))])) t → Steps p.tables e below (s₁.setTop (entryFrame m #[(.int p0), (.int p1), (.int p2), (.int p3), (.int p4), (.int p5)] maxLocals)) t := fun t kt => by
        refine pre337 _ ?_
        show Steps p.tables e below (T336.setTop (mkF m 116 #[iv p0, iv p1, iv p2, iv p3, iv p4, iv p5, iv (1 : Int32), rv b4, iv (0 : Int32), iv p0, iv p0] [(.int p0), (.int p0)])) _
        refine XS.icmpNo X336.here hx rfl (hb hby at_116) rfl (XT.ii_ne_f rfl) ?_
        show Steps p.tables e below (T336.setTop (mkF m 119 #[iv p0, iv p1, iv p2, iv p3, iv p4, iv p5, iv (1 : Int32), rv b4, iv (0 : Int32), iv p0, iv p0] [])) _
        refine XS.iconst X336.here hx rfl (hb hby at_119) ?_
        show Steps p.tables e below (T336.setTop (mkF m 120 #[iv p0, iv p1, iv p2, iv p3, iv p4, iv p5, iv (1 : Int32), rv b4, iv (0 : Int32), iv p0, iv p0] [(.int (1 : Int32))])) _
        refine XS.goto X336.here hx rfl (pc0 := 120) (pc' := 124) rfl (hb hby at_120) (by decide) (by decide) ?_
        exact kt
      obtain ⟨fs, hr, hrun, hended, hW, hsame⟩ := X336.leave (v := some (.int (1 : Int32))) (fun h => by rw [Bd.returns] at h; cases h)
      refine ⟨_, _, pre338 _ (retN X336 hx (t := .boolean) Bd.returns (by simp) (hb hby at_124) hr), hrun, hended, _, _, rfl, ?_, ⟨_, rfl⟩, hW, hsame.mono (by decide) (by decide)⟩
      show Q_law Z p0 p1 p2 p3 p4 p5 h0 n0 _ T336.heap _
      rw [e336]
      exact ⟨rfl, N336⟩
  · rw [hv2] at pre1
    have pre339 : ∀ t, Steps p.tables e below (s₁.setTop (mkF m 8 #[iv p0, iv p1, iv p2, iv p3, iv p4, iv p5, iv (2 : Int32), .unset, .unset, .unset, .unset] [])) t → Steps p.tables e below (s₁.setTop (entryFrame m #[(.int p0), (.int p1), (.int p2), (.int p3), (.int p4), (.int p5)] maxLocals)) t := fun t kt => by
      refine pre1 _ ?_
      show Steps p.tables e below (s₁.setTop (mkF m 4 #[iv p0, iv p1, iv p2, iv p3, iv p4, iv p5, .unset, .unset, .unset, .unset, .unset] [(.int (1 : Int32))])) _
      refine XS.iconst X0.here hx rfl (hb hby at_4) ?_
      show Steps p.tables e below (s₁.setTop (mkF m 5 #[iv p0, iv p1, iv p2, iv p3, iv p4, iv p5, .unset, .unset, .unset, .unset, .unset] [(.int (1 : Int32)), (.int (1 : Int32))])) _
      refine XS.iadd X0.here hx rfl (hb hby at_5) rfl ?_
      show  Steps p.tables e below (s₁.setTop (mkF m 6 #[iv p0, iv p1, iv p2, iv p3, iv p4, iv p5, .unset, .unset, .unset, .unset, .unset] [(.int ((1 : Int32) + (1 : Int32)))])) _
      rw [(by decide : (((1 : Int32) + (1 : Int32)) : Int32) = (2 : Int32))]
      show Steps p.tables e below (s₁.setTop (mkF m 6 #[iv p0, iv p1, iv p2, iv p3, iv p4, iv p5, .unset, .unset, .unset, .unset, .unset] [(.int (2 : Int32))])) _
      refine XS.istore X0.here hx rfl (hb hby at_6) rfl (l' := #[iv p0, iv p1, iv p2, iv p3, iv p4, iv p5, iv (2 : Int32), .unset, .unset, .unset, .unset]) rfl ?_
      exact kt
    obtain ⟨T340, h340, X340, e340, E340, A340, D340, -, st340⟩ := newO X0 hx hZ hown (W 0 rfl) (W 1 rfl) (W 2 rfl) e0 (g := (mkF m 8 #[iv p0, iv p1, iv p2, iv p3, iv p4, iv p5, iv (2 : Int32), .unset, .unset, .unset, .unset] [])) rfl (hb hby at_8) (by decide) (by decide)
    obtain ⟨b340, g340⟩ : ∃ z, z = h0.size := ⟨_, rfl⟩
    rw [← g340] at A340 D340 st340
    have pre341 : ∀ t, Steps p.tables e below (T340.setTop (mkF m 11 #[iv p0, iv p1, iv p2, iv p3, iv p4, iv p5, iv (2 : Int32), .unset, .unset, .unset, .unset] [(.ref b340)])) t → Steps p.tables e below (s₁.setTop (entryFrame m #[(.int p0), (.int p1), (.int p2), (.int p3), (.int p4), (.int p5)] maxLocals)) t := fun t kt => pre339 _ (st340 _ kt)
    have O340 := O0.ext E340
    have K340 : Keep h0 h340 [] := K0.ext E340
    have g_b340 : n0 ≤ b340 := Nat.le_trans (Nat.le_trans (Nat.le_of_eq O0.1.symm) O0.2.1) (Nat.le_of_eq g340.symm)
    have sz_b340 : h0.size ≤ b340 := Nat.le_trans K0.1 (Nat.le_of_eq g340.symm)
    have F342 : Exa Z h340 b340 "org/reachwatch/IntBlocks" := A340
    have F343 : Fld Z h340 b340 "org/reachwatch/IntBlocks" "blocks" "[[I" .null := D340 (Or.inl (W 12 rfl)) (ty := (.array (.array .int))) (by decide)
    have F344 : Fld Z h340 b340 "org/reachwatch/IntBlocks" "size" "I" (.int (0 : Int32)) := D340 (Or.inl (W 19 rfl)) (ty := .int) (by decide)
    have pre345 : ∀ t, Steps p.tables e below (T340.setTop (mkF m 12 #[iv p0, iv p1, iv p2, iv p3, iv p4, iv p5, iv (2 : Int32), .unset, .unset, .unset, .unset] [(.ref b340), (.ref b340)])) t → Steps p.tables e below (s₁.setTop (entryFrame m #[(.int p0), (.int p1), (.int p2), (.int p3), (.int p4), (.int p5)] maxLocals)) t := fun t kt => by
      refine pre341 _ ?_
      show Steps p.tables e below (T340.setTop (mkF m 11 #[iv p0, iv p1, iv p2, iv p3, iv p4, iv p5, iv (2 : Int32), .unset, .unset, .unset, .unset] [(.ref b340)])) _
      refine XS.dup X340.here hx rfl (hb hby at_11) rfl rfl ?_
      exact kt
    obtain ⟨_, _, ⟨T346, L346, k346, n346⟩, -, X346, ⟨Lc346, hQ346, l346, y346, z346⟩, st346⟩ := X340.specialBack hx (y := (⟨"org/reachwatch/IntBlocks", "<init>", "()V"⟩ : MethodName)) rfl hown (mvT hZ (W 3 rfl)) (mvT hZ (W 4 rfl)) (mvT hZ (W 5 rfl)) (by decide) (backOf (W := 1) (rm_init1_0 l Z a0 hw [] b340 h340 n0 O340 g_b340 F342 F343 F344) hZ (W 5 rfl) (W 2 rfl) (by decide) (by decide)) (g := (mkF m 12 #[iv p0, iv p1, iv p2, iv p3, iv p4, iv p5, iv (2 : Int32), .unset, .unset, .unset, .unset] [(.ref b340), (.ref b340)])) rfl (by rw [hml]; rfl) (Steps.refl _) (a := b340) (argsL := []) (rest := [(.ref b340)]) (lenOf pd_4 rfl) rfl (by show 2 * 0 + _ ≤ _; exact Nat.le_of_eq rfl) (hb hby at_12) (fun _ _ => ⟨rfl, e340, (by decide : 1 + 1 ≤ _), (by decide : 2 + 1 ≤ _)⟩)
    dsimp only [Pt.U, Pt.locs, Pt.cells, Pt.slots] at X346 l346 y346 z346 st346 hQ346
    replace l346 := l346.symm
    replace y346 : 2 = k346 := y346.symm
    replace z346 : 3 = n346 := z346.symm
    subst l346 y346 z346
    obtain ⟨b51_346, k51_346, rfl, M346, Kc346, O346, J346_0, J346_1, J346_2, J346_3, J346_4, J346_5, P346_0⟩ := hQ346
    obtain ⟨h346, e346⟩ : ∃ z, T346.heap = z := ⟨_, rfl⟩
    rw [e346] at Kc346 O346 J346_0 J346_1 J346_2 J346_4 J346_5
    try rw [e346] at P346_0
    have N346 := Fr.app N0 M346
    have K346 : Keep h0 h346 [] := K340.trans Kc346 (own_all1 (Or.inr sz_b340))
    have pre347 : ∀ t, Steps p.tables e below (T346.setTop (mkF m 15 #[iv p0, iv p1, iv p2, iv p3, iv p4, iv p5, iv (2 : Int32), .unset, .unset, .unset, .unset] [(.ref b340)])) t → Steps p.tables e below (s₁.setTop (entryFrame m #[(.int p0), (.int p1), (.int p2), (.int p3), (.int p4), (.int p5)] maxLocals)) t := fun t kt => pre345 _ (st346.trans kt)
    have sz_b51_346 : h0.size ≤ b51_346 := Nat.le_trans K340.1 P346_0
    have ne_b340_b51_346 : b340 ≠ b51_346 := Nat.ne_of_lt (Nat.lt_of_lt_of_le F342.lt P346_0)
    have g_b51_346 : n0 ≤ b51_346 := Nat.le_trans (Nat.le_trans (Nat.le_of_eq O0.1.symm) O0.2.1) sz_b51_346
    have pre348 : ∀ t, Steps p.tables e below (T346.setTop (mkF m 20 #[iv p0, iv p1, iv p2, iv p3, iv p4, iv p5, iv (2 : Int32), rv b340, .unset, .unset, .unset] [(.int p0), (.ref b340)])) t → Steps p.tables e below (s₁.setTop (entryFrame m #[(.int p0), (.int p1), (.int p2), (.int p3), (.int p4), (.int p5)] maxLocals)) t := fun t kt => by
      refine pre347 _ ?_
      show Steps p.tables e below (T346.setTop (mkF m 15 #[iv p0, iv p1, iv p2, iv p3, iv p4, iv p5, iv (2 : Int32), .unset, .unset, .unset, .unset] [(.ref b340)])) _
      refine XS.astore X346.here hx rfl (hb hby at_15) rfl rfl (l' := #[iv p0, iv p1, iv p2, iv p3, iv p4, iv p5, iv (2 : Int32), rv b340, .unset, .unset, .unset]) rfl ?_
      show Steps p.tables e below (T346.setTop (mkF m 17 #[iv p0, iv p1, iv p2, iv p3, iv p4, iv p5, iv (2 : Int32), rv b340, .unset, .unset, .unset] [])) _
      refine XS.aload X346.here hx rfl (hb hby at_17) rfl rfl ?_
      show Steps p.tables e below (T346.setTop (mkF m 19 #[iv p0, iv p1, iv p2, iv p3, iv p4, iv p5, iv (2 : Int32), rv b340, .unset, .unset, .unset] [(.ref b340)])) _
      refine XS.iloadN X346.here hx rfl (hb hby at_19) rfl ?_
      exact kt
    obtain ⟨cq349, kq349, q349a, q349b, q349c⟩ := isOf hZ e346 J346_0
    obtain ⟨_, _, ⟨T349, L349, k349, n349⟩, -, X349, ⟨Lc349, hQ349, l349, y349, z349⟩, st349⟩ := X346.virtualBack hx (y := (⟨"org/reachwatch/IntBlocks", "add", "(I)V"⟩ : MethodName)) (z := (⟨"org/reachwatch/IntBlocks", "add", "(I)V"⟩ : MethodName)) hown (mvT hZ (W 13 rfl)) (mvT hZ (W 14 rfl)) (notFace_of_selects (args := #[]) (mvT hZ (W 16 rfl))) (mvT hZ (W 16 rfl)) (mvT hZ (W 15 rfl)) (by decide) (backOf (W := 0) (rm_add3_0 l Z a0 hw [] b340 p0 b51_346 k51_346 h346 n0 O346 g_b340 g_b51_346 J346_0 J346_1 J346_2 J346_3 J346_4 J346_5 (fun q => ne_b340_b51_346 q.symm)) hZ (W 17 rfl) (W 2 rfl) (by decide) (by decide)) q349a q349c (g := (mkF m 20 #[iv p0, iv p1, iv p2, iv p3, iv p4, iv p5, iv (2 : Int32), rv b340, .unset, .unset, .unset] [(.int p0), (.ref b340)])) rfl (by rw [hml]; rfl) (Steps.refl _) (argsL := [(.int p0)]) (rest := []) (lenOf pd_6 rfl) rfl (by show 2 * 0 + _ ≤ _; exact Nat.le_of_eq rfl) (hb hby at_20) (fun _ _ => ⟨rfl, e346, (by decide : 2 + 1 ≤ _), (by decide : 3 + 16 ≤ _)⟩)
    dsimp only [Pt.U, Pt.locs, Pt.cells, Pt.slots] at X349 l349 y349 z349 st349 hQ349
    replace l349 := l349.symm
    replace y349 : 3 = k349 := y349.symm
    replace z349 : 19 = n349 := z349.symm
    subst l349 y349 z349
    obtain ⟨b221_349, k221_349, rfl, M349, Kc349, O349, J349_0, J349_1, J349_2, J349_3, J349_4, J349_5, J349_6, P349_0⟩ := hQ349
    obtain ⟨h349, e349⟩ : ∃ z, T349.heap = z := ⟨_, rfl⟩
    rw [e349] at Kc349 O349 J349_0 J349_1 J349_2 J349_3 J349_4 J349_5 J349_6
    try rw [e349] at P349_0
    have N349 := Fr.app N346 M349
    have K349 : Keep h0 h349 [] := K346.trans Kc349 (own_all2 (Or.inr sz_b340) (Or.inr sz_b51_346))
    have pre350 : ∀ t, Steps p.tables e below (T349.setTop (mkF m 23 #[iv p0, iv p1, iv p2, iv p3, iv p4, iv p5, iv (2 : Int32), rv b340, .unset, .unset, .unset] [])) t → Steps p.tables e below (s₁.setTop (entryFrame m #[(.int p0), (.int p1), (.int p2), (.int p3), (.int p4), (.int p5)] maxLocals)) t := fun t kt => pre348 _ (st349.trans kt)
    have sz_b221_349 : h0.size ≤ b221_349 := Nat.le_trans K346.1 P349_0
    have ne_b340_b221_349 : b340 ≠ b221_349 := Nat.ne_of_lt (Nat.lt_of_lt_of_le J346_0.lt P349_0)
    have ne_b51_346_b221_349 : b51_346 ≠ b221_349 := Nat.ne_of_lt (Nat.lt_of_lt_of_le J346_2.lt P349_0)
    have g_b221_349 : n0 ≤ b221_349 := Nat.le_trans (Nat.le_trans (Nat.le_of_eq O0.1.symm) O0.2.1) sz_b221_349
    have pre351 : ∀ t, Steps p.tables e below (T349.setTop (mkF m 32 #[iv p0, iv p1, iv p2, iv p3, iv p4, iv p5, iv (2 : Int32), rv b340, .unset, .unset, .unset] [(.int p1), (.ref b340)])) t → Steps p.tables e below (s₁.setTop (entryFrame m #[(.int p0), (.int p1), (.int p2), (.int p3), (.int p4), (.int p5)] maxLocals)) t := fun t kt => by
      refine pre350 _ ?_
      show Steps p.tables e below (T349.setTop (mkF m 23 #[iv p0, iv p1, iv p2, iv p3, iv p4, iv p5, iv (2 : Int32), rv b340, .unset, .unset, .unset] [])) _
      refine XS.iload X349.here hx rfl (hb hby at_23) rfl ?_
      show Steps p.tables e below (T349.setTop (mkF m 25 #[iv p0, iv p1, iv p2, iv p3, iv p4, iv p5, iv (2 : Int32), rv b340, .unset, .unset, .unset] [(.int (2 : Int32))])) _
      refine XS.iconst X349.here hx rfl (hb hby at_25) ?_
      show Steps p.tables e below (T349.setTop (mkF m 26 #[iv p0, iv p1, iv p2, iv p3, iv p4, iv p5, iv (2 : Int32), rv b340, .unset, .unset, .unset] [(.int (2 : Int32)), (.int (2 : Int32))])) _
      refine XS.icmpNo X349.here hx rfl (hb hby at_26) rfl (XT.ii_lt_f (by decide)) ?_
      show Steps p.tables e below (T349.setTop (mkF m 29 #[iv p0, iv p1, iv p2, iv p3, iv p4, iv p5, iv (2 : Int32), rv b340, .unset, .unset, .unset] [])) _
      refine XS.aload X349.here hx rfl (hb hby at_29) rfl rfl ?_
      show Steps p.tables e below (T349.setTop (mkF m 31 #[iv p0, iv p1, iv p2, iv p3, iv p4, iv p5, iv (2 : Int32), rv b340, .unset, .unset, .unset] [(.ref b340)])) _
      refine XS.iloadN X349.here hx rfl (hb hby at_31) rfl ?_
      exact kt
    obtain ⟨cq352, kq352, q352a, q352b, q352c⟩ := isOf hZ e349 J349_0
    obtain ⟨_, _, ⟨T352, L352, k352, n352⟩, -, X352, ⟨Lc352, hQ352, l352, y352, z352⟩, st352⟩ := X349.virtualBack hx (y := (⟨"org/reachwatch/IntBlocks", "add", "(I)V"⟩ : MethodName)) (z := (⟨"org/reachwatch/IntBlocks", "add", "(I)V"⟩ : MethodName)) hown (mvT hZ (W 13 rfl)) (mvT hZ (W 14 rfl)) (notFace_of_selects (args := #[]) (mvT hZ (W 16 rfl))) (mvT hZ (W 16 rfl)) (mvT hZ (W 15 rfl)) (by decide) (backOf (W := 0) (rm_add3_1 l Z a0 hw [] b340 p1 k51_346 b51_346 b221_349 p0 k221_349 h349 n0 O349 g_b340 g_b221_349 J349_0 J349_2 J349_3 J349_4 J349_5 J349_6 (fun q => ne_b340_b51_346 q.symm) (fun q => ne_b340_b221_349 q.symm) (fun q => ne_b51_346_b221_349 q.symm)) hZ (W 17 rfl) (W 2 rfl) (by decide) (by decide)) q352a q352c (g := (mkF m 32 #[iv p0, iv p1, iv p2, iv p3, iv p4, iv p5, iv (2 : Int32), rv b340, .unset, .unset, .unset] [(.int p1), (.ref b340)])) rfl (by rw [hml]; rfl) (Steps.refl _) (argsL := [(.int p1)]) (rest := []) (lenOf pd_6 rfl) rfl (by show 2 * 0 + _ ≤ _; exact Nat.le_of_eq rfl) (hb hby at_32) (fun _ _ => ⟨rfl, e349, (by decide : 3 + 0 ≤ _), (by decide : 19 + 0 ≤ _)⟩)
    dsimp only [Pt.U, Pt.locs, Pt.cells, Pt.slots] at X352 l352 y352 z352 st352 hQ352
    replace l352 := l352.symm
    replace y352 : 3 = k352 := y352.symm
    replace z352 : 19 = n352 := z352.symm
    subst l352 y352 z352
    obtain ⟨rfl, M352, Kc352, O352, J352_0, J352_1, J352_2, J352_3, J352_4⟩ := hQ352
    obtain ⟨h352, e352⟩ : ∃ z, T352.heap = z := ⟨_, rfl⟩
    rw [e352] at Kc352 O352 J352_0 J352_1 J352_2 J352_3 J352_4
    have N352 := Fr.app N349 M352
    have K352 : Keep h0 h352 [] := K349.trans Kc352 (own_all2 (Or.inr sz_b340) (Or.inr sz_b221_349))
    have pre502 : ∀ t, Steps p.tables e below (T352.setTop (mkF m 35 #[iv p0, iv p1, iv p2, iv p3, iv p4, iv p5, iv (2 : Int32), rv b340, .unset, .unset, .unset] [])) t → Steps p.tables e below (s₁.setTop (entryFrame m #[(.int p0), (.int p1), (.int p2), (.int p3), (.int p4), (.int p5)] maxLocals)) t := fun t kt => pre351 _ (st352.trans kt)
    have F503 := J349_1.keep Kc352
    have F504 := J349_4.keep Kc352 (own_nm2 (fun q => ne_b340_b51_346 q.symm) ne_b51_346_b221_349)
    have pre505 : ∀ t, Steps p.tables e below (T352.setTop (mkF m 67 #[iv p0, iv p1, iv p2, iv p3, iv p4, iv p5, iv (2 : Int32), rv b340, .unset, .unset, .unset] [(.int ((p5 &&& (2147483647 : Int32)) - ((p5 &&& (2147483647 : Int32)) / (2 : Int32)) * (2 : Int32)))])) t → Steps p.tables e below (s₁.setTop (entryFrame m #[(.int p0), (.int p1), (.int p2), (.int p3), (.int p4), (.int p5)] maxLocals)) t := fun t kt => by
      refine pre502 _ ?_
      show Steps p.tables e below (T352.setTop (mkF m 35 #[iv p0, iv p1, iv p2, iv p3, iv p4, iv p5, iv (2 : Int32), rv b340, .unset, .unset, .unset] [])) _
      refine XS.iload X352.here hx rfl (hb hby at_35) rfl ?_
      show Steps p.tables e below (T352.setTop (mkF m 37 #[iv p0, iv p1, iv p2, iv p3, iv p4, iv p5, iv (2 : Int32), rv b340, .unset, .unset, .unset] [(.int (2 : Int32))])) _
      refine XS.iconst X352.here hx rfl (hb hby at_37) ?_
      show Steps p.tables e below (T352.setTop (mkF m 38 #[iv p0, iv p1, iv p2, iv p3, iv p4, iv p5, iv (2 : Int32), rv b340, .unset, .unset, .unset] [(.int (3 : Int32)), (.int (2 : Int32))])) _
      refine XS.icmpYes X352.here hx rfl (pc0 := 38) (pc' := 47) rfl (hb hby at_38) rfl (XT.ii_lt_t (by decide)) (by decide) (by decide) ?_
      show Steps p.tables e below (T352.setTop (mkF m 47 #[iv p0, iv p1, iv p2, iv p3, iv p4, iv p5, iv (2 : Int32), rv b340, .unset, .unset, .unset] [])) _
      refine XS.iload X352.here hx rfl (hb hby at_47) rfl ?_
      show Steps p.tables e below (T352.setTop (mkF m 49 #[iv p0, iv p1, iv p2, iv p3, iv p4, iv p5, iv (2 : Int32), rv b340, .unset, .unset, .unset] [(.int (2 : Int32))])) _
      refine XS.iconst X352.here hx rfl (hb hby at_49) ?_
      show Steps p.tables e below (T352.setTop (mkF m 50 #[iv p0, iv p1, iv p2, iv p3, iv p4, iv p5, iv (2 : Int32), rv b340, .unset, .unset, .unset] [(.int (4 : Int32)), (.int (2 : Int32))])) _
      refine XS.icmpYes X352.here hx rfl (pc0 := 50) (pc' := 59) rfl (hb hby at_50) rfl (XT.ii_lt_t (by decide)) (by decide) (by decide) ?_
      show Steps p.tables e below (T352.setTop (mkF m 59 #[iv p0, iv p1, iv p2, iv p3, iv p4, iv p5, iv (2 : Int32), rv b340, .unset, .unset, .unset] [])) _
      refine XS.iload X352.here hx rfl (hb hby at_59) rfl ?_
      show Steps p.tables e below (T352.setTop (mkF m 61 #[iv p0, iv p1, iv p2, iv p3, iv p4, iv p5, iv (2 : Int32), rv b340, .unset, .unset, .unset] [(.int p5)])) _
      refine X352.ldcInt hx hown (mvT hZ (W 23 rfl)) (g := (mkF m 61 #[iv p0, iv p1, iv p2, iv p3, iv p4, iv p5, iv (2 : Int32), rv b340, .unset, .unset, .unset] [(.int p5)])) rfl (hb hby at_61) _ ?_
      show Steps p.tables e below (T352.setTop (mkF m 63 #[iv p0, iv p1, iv p2, iv p3, iv p4, iv p5, iv (2 : Int32), rv b340, .unset, .unset, .unset] [(.int (2147483647 : Int32)), (.int p5)])) _
      refine XS.iand X352.here hx rfl (hb hby at_63) rfl ?_
      show Steps p.tables e below (T352.setTop (mkF m 64 #[iv p0, iv p1, iv p2, iv p3, iv p4, iv p5, iv (2 : Int32), rv b340, .unset, .unset, .unset] [(.int (p5 &&& (2147483647 : Int32)))])) _
      refine XS.iload X352.here hx rfl (hb hby at_64) rfl ?_
      show Steps p.tables e below (T352.setTop (mkF m 66 #[iv p0, iv p1, iv p2, iv p3, iv p4, iv p5, iv (2 : Int32), rv b340, .unset, .unset, .unset] [(.int (2 : Int32)), (.int (p5 &&& (2147483647 : Int32)))])) _
      refine XS.irem X352.here hx rfl (hb hby at_66) rfl (by decide) ?_
      exact kt
    rcases own_rem2 p5 with hv506 | hv506
    · rw [hv506] at pre505
      have pre507 : ∀ t, Steps p.tables e below (T352.setTop (mkF m 73 #[iv p0, iv p1, iv p2, iv p3, iv p4, iv p5, iv (2 : Int32), rv b340, iv (0 : Int32), .unset, .unset] [(.int (0 : Int32)), (.ref b340)])) t → Steps p.tables e below (s₁.setTop (entryFrame m #[(.int p0), (.int p1), (.int p2), (.int p3), (.int p4), (.int p5)] maxLocals)) t := fun t kt => by
        refine pre505 _ ?_
        show Steps p.tables e below (T352.setTop (mkF m 67 #[iv p0, iv p1, iv p2, iv p3, iv p4, iv p5, iv (2 : Int32), rv b340, .unset, .unset, .unset] [(.int (0 : Int32))])) _
        refine XS.istore X352.here hx rfl (hb hby at_67) rfl (l' := #[iv p0, iv p1, iv p2, iv p3, iv p4, iv p5, iv (2 : Int32), rv b340, iv (0 : Int32), .unset, .unset]) rfl ?_
        show Steps p.tables e below (T352.setTop (mkF m 69 #[iv p0, iv p1, iv p2, iv p3, iv p4, iv p5, iv (2 : Int32), rv b340, iv (0 : Int32), .unset, .unset] [])) _
        refine XS.aload X352.here hx rfl (hb hby at_69) rfl rfl ?_
        show Steps p.tables e below (T352.setTop (mkF m 71 #[iv p0, iv p1, iv p2, iv p3, iv p4, iv p5, iv (2 : Int32), rv b340, iv (0 : Int32), .unset, .unset] [(.ref b340)])) _
        refine XS.iload X352.here hx rfl (hb hby at_71) rfl ?_
        exact kt
      obtain ⟨cq508, kq508, q508a, q508b, q508c⟩ := isOf hZ e352 J352_0
      obtain ⟨_, _, ⟨T508, L508, k508, n508⟩, -, X508, ⟨Lc508, hQ508, l508, y508, z508⟩, st508⟩ := X352.virtualBack hx (y := (⟨"org/reachwatch/IntBlocks", "get", "(I)I"⟩ : MethodName)) (z := (⟨"org/reachwatch/IntBlocks", "get", "(I)I"⟩ : MethodName)) hown (mvT hZ (W 24 rfl)) (mvT hZ (W 25 rfl)) (notFace_of_selects (args := #[]) (mvT hZ (W 27 rfl))) (mvT hZ (W 27 rfl)) (mvT hZ (W 26 rfl)) (by decide) (backOf (W := 0) (rm_get4_1 l Z a0 hw [] b340 k51_346 b51_346 b221_349 p0 p1 k221_349 h352 n0 O352 F504 J352_1 J352_3 J352_4) hZ (W 28 rfl) (W 2 rfl) (by decide) (by decide)) q508a q508c (g := (mkF m 73 #[iv p0, iv p1, iv p2, iv p3, iv p4, iv p5, iv (2 : Int32), rv b340, iv (0 : Int32), .unset, .unset] [(.int (0 : Int32)), (.ref b340)])) rfl (by rw [hml]; rfl) (Steps.refl _) (argsL := [(.int (0 : Int32))]) (rest := []) (lenOf pd_14 rfl) rfl (by show 2 * 0 + _ ≤ _; exact Nat.le_of_eq rfl) (hb hby at_73) (fun _ _ => ⟨rfl, e352, (by decide : 3 + 0 ≤ _), (by decide : 19 + 0 ≤ _)⟩)
      dsimp only [Pt.U, Pt.locs, Pt.cells, Pt.slots] at X508 l508 y508 z508 st508 hQ508
      replace l508 := l508.symm
      replace y508 : 3 = k508 := y508.symm
      replace z508 : 19 = n508 := z508.symm
      subst l508 y508 z508
      obtain ⟨rfl, M508, e508⟩ := hQ508
      have N508 := Fr.app N352 M508
      have pre560 : ∀ t, Steps p.tables e below (T508.setTop (mkF m 76 #[iv p0, iv p1, iv p2, iv p3, iv p4, iv p5, iv (2 : Int32), rv b340, iv (0 : Int32), .unset, .unset] [(.int p0)])) t → Steps p.tables e below (s₁.setTop (entryFrame m #[(.int p0), (.int p1), (.int p2), (.int p3), (.int p4), (.int p5)] maxLocals)) t := fun t kt => pre507 _ (st508.trans kt)
      have pre561 : ∀ t, Steps p.tables e below (T508.setTop (mkF m 84 #[iv p0, iv p1, iv p2, iv p3, iv p4, iv p5, iv (2 : Int32), rv b340, iv (0 : Int32), iv p0, .unset] [(.int (1 : Int32)), (.ref b340)])) t → Steps p.tables e below (s₁.setTop (entryFrame m #[(.int p0), (.int p1), (.int p2), (.int p3), (.int p4), (.int p5)] maxLocals)) t := fun t kt => by
        refine pre560 _ ?_
        show Steps p.tables e below (T508.setTop (mkF m 76 #[iv p0, iv p1, iv p2, iv p3, iv p4, iv p5, iv (2 : Int32), rv b340, iv (0 : Int32), .unset, .unset] [(.int p0)])) _
        refine XS.istore X508.here hx rfl (hb hby at_76) rfl (l' := #[iv p0, iv p1, iv p2, iv p3, iv p4, iv p5, iv (2 : Int32), rv b340, iv (0 : Int32), iv p0, .unset]) rfl ?_
        show Steps p.tables e below (T508.setTop (mkF m 78 #[iv p0, iv p1, iv p2, iv p3, iv p4, iv p5, iv (2 : Int32), rv b340, iv (0 : Int32), iv p0, .unset] [])) _
        refine XS.aload X508.here hx rfl (hb hby at_78) rfl rfl ?_
        show Steps p.tables e below (T508.setTop (mkF m 80 #[iv p0, iv p1, iv p2, iv p3, iv p4, iv p5, iv (2 : Int32), rv b340, iv (0 : Int32), iv p0, .unset] [(.ref b340)])) _
        refine XS.iload X508.here hx rfl (hb hby at_80) rfl ?_
        show Steps p.tables e below (T508.setTop (mkF m 82 #[iv p0, iv p1, iv p2, iv p3, iv p4, iv p5, iv (2 : Int32), rv b340, iv (0 : Int32), iv p0, .unset] [(.int (2 : Int32)), (.ref b340)])) _
        refine XS.iconst X508.here hx rfl (hb hby at_82) ?_
        show Steps p.tables e below (T508.setTop (mkF m 83 #[iv p0, iv p1, iv p2, iv p3, iv p4, iv p5, iv (2 : Int32), rv b340, iv (0 : Int32), iv p0, .unset] [(.int (1 : Int32)), (.int (2 : Int32)), (.ref b340)])) _
        refine XS.isub X508.here hx rfl (hb hby at_83) rfl ?_
        show  Steps p.tables e below (T508.setTop (mkF m 84 #[iv p0, iv p1, iv p2, iv p3, iv p4, iv p5, iv (2 : Int32), rv b340, iv (0 : Int32), iv p0, .unset] [(.int ((2 : Int32) - (1 : Int32))), (.ref b340)])) _
        rw [(by decide : (((2 : Int32) - (1 : Int32)) : Int32) = (1 : Int32))]
        exact kt
      obtain ⟨cq562, kq562, q562a, q562b, q562c⟩ := isOf hZ e508 J352_0
      obtain ⟨_, _, ⟨T562, L562, k562, n562⟩, -, X562, ⟨Lc562, hQ562, l562, y562, z562⟩, st562⟩ := X508.virtualBack hx (y := (⟨"org/reachwatch/IntBlocks", "get", "(I)I"⟩ : MethodName)) (z := (⟨"org/reachwatch/IntBlocks", "get", "(I)I"⟩ : MethodName)) hown (mvT hZ (W 24 rfl)) (mvT hZ (W 25 rfl)) (notFace_of_selects (args := #[]) (mvT hZ (W 27 rfl))) (mvT hZ (W 27 rfl)) (mvT hZ (W 26 rfl)) (by decide) (backOf (W := 0) (rm_get4_2 l Z a0 hw [] b340 k51_346 b51_346 b221_349 p0 p1 k221_349 h352 n0 O352 F504 J352_1 J352_3 J352_4) hZ (W 28 rfl) (W 2 rfl) (by decide) (by decide)) q562a q562c (g := (mkF m 84 #[iv p0, iv p1, iv p2, iv p3, iv p4, iv p5, iv (2 : Int32), rv b340, iv (0 : Int32), iv p0, .unset] [(.int (1 : Int32)), (.ref b340)])) rfl (by rw [hml]; rfl) (Steps.refl _) (argsL := [(.int (1 : Int32))]) (rest := []) (lenOf pd_14 rfl) rfl (by show 2 * 0 + _ ≤ _; exact Nat.le_of_eq rfl) (hb hby at_84) (fun _ _ => ⟨rfl, e508, (by decide : 3 + 0 ≤ _), (by decide : 19 + 0 ≤ _)⟩)
      dsimp only [Pt.U, Pt.locs, Pt.cells, Pt.slots] at X562 l562 y562 z562 st562 hQ562
      replace l562 := l562.symm
      replace y562 : 3 = k562 := y562.symm
      replace z562 : 19 = n562 := z562.symm
      subst l562 y562 z562
      obtain ⟨rfl, M562, e562⟩ := hQ562
      have N562 := Fr.app N508 M562
      have pre614 : ∀ t, Steps p.tables e below (T562.setTop (mkF m 87 #[iv p0, iv p1, iv p2, iv p3, iv p4, iv p5, iv (2 : Int32), rv b340, iv (0 : Int32), iv p0, .unset] [(.int p1)])) t → Steps p.tables e below (s₁.setTop (entryFrame m #[(.int p0), (.int p1), (.int p2), (.int p3), (.int p4), (.int p5)] maxLocals)) t := fun t kt => pre561 _ (st562.trans kt)
      have pre615 : ∀ t, Steps p.tables e below (T562.setTop (mkF m 97 #[iv p0, iv p1, iv p2, iv p3, iv p4, iv p5, iv (2 : Int32), rv b340, iv (0 : Int32), iv p0, iv p1] [(.int p3), (.int p2), (.int p1), (.int p0), (.int (0 : Int32)), (.int p0)])) t → Steps p.tables e below (s₁.setTop (entryFrame m #[(.int p0), (.int p1), (.int p2), (.int p3), (.int p4), (.int p5)] maxLocals)) t := fun t kt => by
        refine pre614 _ ?_
        show Steps p.tables e below (T562.setTop (mkF m 87 #[iv p0, iv p1, iv p2, iv p3, iv p4, iv p5, iv (2 : Int32), rv b340, iv (0 : Int32), iv p0, .unset] [(.int p1)])) _
        refine XS.istore X562.here hx rfl (hb hby at_87) rfl (l' := #[iv p0, iv p1, iv p2, iv p3, iv p4, iv p5, iv (2 : Int32), rv b340, iv (0 : Int32), iv p0, iv p1]) rfl ?_
        show Steps p.tables e below (T562.setTop (mkF m 89 #[iv p0, iv p1, iv p2, iv p3, iv p4, iv p5, iv (2 : Int32), rv b340, iv (0 : Int32), iv p0, iv p1] [])) _
        refine XS.iload X562.here hx rfl (hb hby at_89) rfl ?_
        show Steps p.tables e below (T562.setTop (mkF m 91 #[iv p0, iv p1, iv p2, iv p3, iv p4, iv p5, iv (2 : Int32), rv b340, iv (0 : Int32), iv p0, iv p1] [(.int p0)])) _
        refine XS.iload X562.here hx rfl (hb hby at_91) rfl ?_
        show Steps p.tables e below (T562.setTop (mkF m 93 #[iv p0, iv p1, iv p2, iv p3, iv p4, iv p5, iv (2 : Int32), rv b340, iv (0 : Int32), iv p0, iv p1] [(.int (0 : Int32)), (.int p0)])) _
        refine XS.iloadN X562.here hx rfl (hb hby at_93) rfl ?_
        show Steps p.tables e below (T562.setTop (mkF m 94 #[iv p0, iv p1, iv p2, iv p3, iv p4, iv p5, iv (2 : Int32), rv b340, iv (0 : Int32), iv p0, iv p1] [(.int p0), (.int (0 : Int32)), (.int p0)])) _
        refine XS.iloadN X562.here hx rfl (hb hby at_94) rfl ?_
        show Steps p.tables e below (T562.setTop (mkF m 95 #[iv p0, iv p1, iv p2, iv p3, iv p4, iv p5, iv (2 : Int32), rv b340, iv (0 : Int32), iv p0, iv p1] [(.int p1), (.int p0), (.int (0 : Int32)), (.int p0)])) _
        refine XS.iloadN X562.here hx rfl (hb hby at_95) rfl ?_
        show Steps p.tables e below (T562.setTop (mkF m 96 #[iv p0, iv p1, iv p2, iv p3, iv p4, iv p5, iv (2 : Int32), rv b340, iv (0 : Int32), iv p0, iv p1] [(.int p2), (.int p1), (.int p0), (.int (0 : Int32)), (.int p0)])) _
        refine XS.iloadN X562.here hx rfl (hb hby at_96) rfl ?_
        exact kt
      obtain ⟨_, _, ⟨T616, L616, k616, n616⟩, -, X616, ⟨Lc616, hQ616, l616, y616, z616⟩, st616⟩ := Jvm.LawKit.callS X562 hx (y := (⟨"org/reachwatch/IntBlocksGetPinLaw", "ref", "(IIIII)I"⟩ : MethodName)) hown (mvT hZ (W 37 rfl)) (mvT hZ (W 38 rfl)) (mvT hZ (W 39 rfl)) (mvT hZ (W 40 rfl)) (by decide) (backOf (W := 1) (rm_ref7_0 l Z a0 hw [] p0 p1 p2 p3 h352 n0 O352) hZ (W 40 rfl) (W 39 rfl) (by decide) (by decide)) (g := (mkF m 97 #[iv p0, iv p1, iv p2, iv p3, iv p4, iv p5, iv (2 : Int32), rv b340, iv (0 : Int32), iv p0, iv p1] [(.int p3), (.int p2), (.int p1), (.int p0), (.int (0 : Int32)), (.int p0)])) rfl (by rw [hml]; rfl) (argsL := [(.int (0 : Int32)), (.int p0), (.int p1), (.int p2), (.int p3)]) (rest := [(.int p0)]) (lenOf pd_16 rfl) rfl (by show 2 * 0 + _ ≤ _; exact Nat.le_of_eq rfl) (hb hby at_97) (fun _ _ => ⟨rfl, e562, (by decide : 3 + 0 ≤ _), (by decide : 19 + 0 ≤ _)⟩)
      dsimp only [Pt.U, Pt.locs, Pt.cells, Pt.slots] at X616 l616 y616 z616 st616 hQ616
      replace l616 := l616.symm
      replace y616 : 3 = k616 := y616.symm
      replace z616 : 19 = n616 := z616.symm
      subst l616 y616 z616
      obtain ⟨rfl, M616, e616⟩ := hQ616
      have N616 := Fr.app N562 M616
      have pre617 : ∀ t, Steps p.tables e below (T616.setTop (mkF m 100 #[iv p0, iv p1, iv p2, iv p3, iv p4, iv p5, iv (2 : Int32), rv b340, iv (0 : Int32), iv p0, iv p1] [(.int p0), (.int p0)])) t → Steps p.tables e below (s₁.setTop (entryFrame m #[(.int p0), (.int p1), (.int p2), (.int p3), (.int p4), (.int p5)] maxLocals)) t := fun t kt => pre615 _ (st616 _ kt)
      have pre618 : ∀ t, Steps p.tables e below (T616.setTop (mkF m 113 #[iv p0, iv p1, iv p2, iv p3, iv p4, iv p5, iv (2 : Int32), rv b340, iv (0 : Int32), iv p0, iv p1] [(.int p3), (.int p2), (.int p1), (.int p0), (.int (1 : Int32)), (.int p1)])) t → Steps p.tables e below (s₁.setTop (entryFrame m #[(.int p0), (.int p1), (.int p2), (.int p3), (.int p4), (.int p5)] maxLocals)) t := fun t kt => by
        refine pre617 _ ?_
        show Steps p.tables e below (T616.setTop (mkF m 100 #[iv p0, iv p1, iv p2, iv p3, iv p4, iv p5, iv (2 : Int32), rv b340, iv (0 : Int32), iv p0, iv p1] [(.int p0), (.int p0)])) _
        refine XS.icmpNo X616.here hx rfl (hb hby at_100) rfl (XT.ii_ne_f rfl) ?_
        show Steps p.tables e below (T616.setTop (mkF m 103 #[iv p0, iv p1, iv p2, iv p3, iv p4, iv p5, iv (2 : Int32), rv b340, iv (0 : Int32), iv p0, iv p1] [])) _
        refine XS.iload X616.here hx rfl (hb hby at_103) rfl ?_
        show Steps p.tables e below (T616.setTop (mkF m 105 #[iv p0, iv p1, iv p2, iv p3, iv p4, iv p5, iv (2 : Int32), rv b340, iv (0 : Int32), iv p0, iv p1] [(.int p1)])) _
        refine XS.iload X616.here hx rfl (hb hby at_105) rfl ?_
        show Steps p.tables e below (T616.setTop (mkF m 107 #[iv p0, iv p1, iv p2, iv p3, iv p4, iv p5, iv (2 : Int32), rv b340, iv (0 : Int32), iv p0, iv p1] [(.int (2 : Int32)), (.int p1)])) _
        refine XS.iconst X616.here hx rfl (hb hby at_107) ?_
        show Steps p.tables e below (T616.setTop (mkF m 108 #[iv p0, iv p1, iv p2, iv p3, iv p4, iv p5, iv (2 : Int32), rv b340, iv (0 : Int32), iv p0, iv p1] [(.int (1 : Int32)), (.int (2 : Int32)), (.int p1)])) _
        refine XS.isub X616.here hx rfl (hb hby at_108) rfl ?_
        show  Steps p.tables e below (T616.setTop (mkF m 109 #[iv p0, iv p1, iv p2, iv p3, iv p4, iv p5, iv (2 : Int32), rv b340, iv (0 : Int32), iv p0, iv p1] [(.int ((2 : Int32) - (1 : Int32))), (.int p1)])) _
        rw [(by decide : (((2 : Int32) - (1 : Int32)) : Int32) = (1 : Int32))]
        show Steps p.tables e below (T616.setTop (mkF m 109 #[iv p0, iv p1, iv p2, iv p3, iv p4, iv p5, iv (2 : Int32), rv b340, iv (0 : Int32), iv p0, iv p1] [(.int (1 : Int32)), (.int p1)])) _
        refine XS.iloadN X616.here hx rfl (hb hby at_109) rfl ?_
        show Steps p.tables e below (T616.setTop (mkF m 110 #[iv p0, iv p1, iv p2, iv p3, iv p4, iv p5, iv (2 : Int32), rv b340, iv (0 : Int32), iv p0, iv p1] [(.int p0), (.int (1 : Int32)), (.int p1)])) _
        refine XS.iloadN X616.here hx rfl (hb hby at_110) rfl ?_
        show Steps p.tables e below (T616.setTop (mkF m 111 #[iv p0, iv p1, iv p2, iv p3, iv p4, iv p5, iv (2 : Int32), rv b340, iv (0 : Int32), iv p0, iv p1] [(.int p1), (.int p0), (.int (1 : Int32)), (.int p1)])) _
        refine XS.iloadN X616.here hx rfl (hb hby at_111) rfl ?_
        show Steps p.tables e below (T616.setTop (mkF m 112 #[iv p0, iv p1, iv p2, iv p3, iv p4, iv p5, iv (2 : Int32), rv b340, iv (0 : Int32), iv p0, iv p1] [(.int p2), (.int p1), (.int p0), (.int (1 : Int32)), (.int p1)])) _
        refine XS.iloadN X616.here hx rfl (hb hby at_112) rfl ?_
        exact kt
      obtain ⟨_, _, ⟨T619, L619, k619, n619⟩, -, X619, ⟨Lc619, hQ619, l619, y619, z619⟩, st619⟩ := Jvm.LawKit.callS X616 hx (y := (⟨"org/reachwatch/IntBlocksGetPinLaw", "ref", "(IIIII)I"⟩ : MethodName)) hown (mvT hZ (W 37 rfl)) (mvT hZ (W 38 rfl)) (mvT hZ (W 39 rfl)) (mvT hZ (W 40 rfl)) (by decide) (backOf (W := 1) (rm_ref7_1 l Z a0 hw [] p0 p1 p2 p3 h352 n0 O352) hZ (W 40 rfl) (W 39 rfl) (by decide) (by decide)) (g := (mkF m 113 #[iv p0, iv p1, iv p2, iv p3, iv p4, iv p5, iv (2 : Int32), rv b340, iv (0 : Int32), iv p0, iv p1] [(.int p3), (.int p2), (.int p1), (.int p0), (.int (1 : Int32)), (.int p1)])) rfl (by rw [hml]; rfl) (argsL := [(.int (1 : Int32)), (.int p0), (.int p1), (.int p2), (.int p3)]) (rest := [(.int p1)]) (lenOf pd_16 rfl) rfl (by show 2 * 0 + _ ≤ _; exact Nat.le_of_eq rfl) (hb hby at_113) (fun _ _ => ⟨rfl, e616, (by decide : 3 + 0 ≤ _), (by decide : 19 + 0 ≤ _)⟩)
      dsimp only [Pt.U, Pt.locs, Pt.cells, Pt.slots] at X619 l619 y619 z619 st619 hQ619
      replace l619 := l619.symm
      replace y619 : 3 = k619 := y619.symm
      replace z619 : 19 = n619 := z619.symm
      subst l619 y619 z619
      obtain ⟨rfl, M619, e619⟩ := hQ619
      have N619 := Fr.app N616 M619
      have pre623 : ∀ t, Steps p.tables e below (T619.setTop (mkF m 116 #[iv p0, iv p1, iv p2, iv p3, iv p4, iv p5, iv (2 : Int32), rv b340, iv (0 : Int32), iv p0, iv p1] [(.int p1), (.int p1)])) t → Steps p.tables e below (s₁.setTop (entryFrame m #[(.int p0), (.int p1), (.int p2), (.int p3), (.int p4), (.int p5)] maxLocals)) t := fun t kt => pre618 _ (st619 _ kt)
      have pre624 : ∀ t, Steps p.tables e below (T619.setTop (mkF m 124 #[iv p0, iv p1, iv p2, iv p3, iv p4, iv p5, iv (2 : Int32), rv b340, iv (0 : Int32), iv p0, iv p1] [(.int (1 : Int32))])) t → Steps p.tables e below (s₁.setTop (entryFrame m #[(.int p0), (.int p1), (.int p2), (.int p3), (.int p4), (.int p5)] maxLocals)) t := fun t kt => by
        refine pre623 _ ?_
        show Steps p.tables e below (T619.setTop (mkF m 116 #[iv p0, iv p1, iv p2, iv p3, iv p4, iv p5, iv (2 : Int32), rv b340, iv (0 : Int32), iv p0, iv p1] [(.int p1), (.int p1)])) _
        refine XS.icmpNo X619.here hx rfl (hb hby at_116) rfl (XT.ii_ne_f rfl) ?_
        show Steps p.tables e below (T619.setTop (mkF m 119 #[iv p0, iv p1, iv p2, iv p3, iv p4, iv p5, iv (2 : Int32), rv b340, iv (0 : Int32), iv p0, iv p1] [])) _
        refine XS.iconst X619.here hx rfl (hb hby at_119) ?_
        show Steps p.tables e below (T619.setTop (mkF m 120 #[iv p0, iv p1, iv p2, iv p3, iv p4, iv p5, iv (2 : Int32), rv b340, iv (0 : Int32), iv p0, iv p1] [(.int (1 : Int32))])) _
        refine XS.goto X619.here hx rfl (pc0 := 120) (pc' := 124) rfl (hb hby at_120) (by decide) (by decide) ?_
        exact kt
      obtain ⟨fs, hr, hrun, hended, hW, hsame⟩ := X619.leave (v := some (.int (1 : Int32))) (fun h => by rw [Bd.returns] at h; cases h)
      refine ⟨_, _, pre624 _ (retN X619 hx (t := .boolean) Bd.returns (by simp) (hb hby at_124) hr), hrun, hended, _, _, rfl, ?_, ⟨_, rfl⟩, hW, hsame.mono (by decide) (by decide)⟩
      show Q_law Z p0 p1 p2 p3 p4 p5 h0 n0 _ T619.heap _
      rw [e619]
      exact ⟨rfl, N619⟩
    · rw [hv506] at pre505
      have pre625 : ∀ t, Steps p.tables e below (T352.setTop (mkF m 73 #[iv p0, iv p1, iv p2, iv p3, iv p4, iv p5, iv (2 : Int32), rv b340, iv (1 : Int32), .unset, .unset] [(.int (1 : Int32)), (.ref b340)])) t → Steps p.tables e below (s₁.setTop (entryFrame m #[(.int p0), (.int p1), (.int p2), (.int p3), (.int p4), (.int p5)] maxLocals)) t := fun t kt => by
        refine pre505 _ ?_
        show Steps p.tables e below (T352.setTop (mkF m 67 #[iv p0, iv p1, iv p2, iv p3, iv p4, iv p5, iv (2 : Int32), rv b340, .unset, .unset, .unset] [(.int (1 : Int32))])) _
        refine XS.istore X352.here hx rfl (hb hby at_67) rfl (l' := #[iv p0, iv p1, iv p2, iv p3, iv p4, iv p5, iv (2 : Int32), rv b340, iv (1 : Int32), .unset, .unset]) rfl ?_
        show Steps p.tables e below (T352.setTop (mkF m 69 #[iv p0, iv p1, iv p2, iv p3, iv p4, iv p5, iv (2 : Int32), rv b340, iv (1 : Int32), .unset, .unset] [])) _
        refine XS.aload X352.here hx rfl (hb hby at_69) rfl rfl ?_
        show Steps p.tables e below (T352.setTop (mkF m 71 #[iv p0, iv p1, iv p2, iv p3, iv p4, iv p5, iv (2 : Int32), rv b340, iv (1 : Int32), .unset, .unset] [(.ref b340)])) _
        refine XS.iload X352.here hx rfl (hb hby at_71) rfl ?_
        exact kt
      obtain ⟨cq626, kq626, q626a, q626b, q626c⟩ := isOf hZ e352 J352_0
      obtain ⟨_, _, ⟨T626, L626, k626, n626⟩, -, X626, ⟨Lc626, hQ626, l626, y626, z626⟩, st626⟩ := X352.virtualBack hx (y := (⟨"org/reachwatch/IntBlocks", "get", "(I)I"⟩ : MethodName)) (z := (⟨"org/reachwatch/IntBlocks", "get", "(I)I"⟩ : MethodName)) hown (mvT hZ (W 24 rfl)) (mvT hZ (W 25 rfl)) (notFace_of_selects (args := #[]) (mvT hZ (W 27 rfl))) (mvT hZ (W 27 rfl)) (mvT hZ (W 26 rfl)) (by decide) (backOf (W := 0) (rm_get4_2 l Z a0 hw [] b340 k51_346 b51_346 b221_349 p0 p1 k221_349 h352 n0 O352 F504 J352_1 J352_3 J352_4) hZ (W 28 rfl) (W 2 rfl) (by decide) (by decide)) q626a q626c (g := (mkF m 73 #[iv p0, iv p1, iv p2, iv p3, iv p4, iv p5, iv (2 : Int32), rv b340, iv (1 : Int32), .unset, .unset] [(.int (1 : Int32)), (.ref b340)])) rfl (by rw [hml]; rfl) (Steps.refl _) (argsL := [(.int (1 : Int32))]) (rest := []) (lenOf pd_14 rfl) rfl (by show 2 * 0 + _ ≤ _; exact Nat.le_of_eq rfl) (hb hby at_73) (fun _ _ => ⟨rfl, e352, (by decide : 3 + 0 ≤ _), (by decide : 19 + 0 ≤ _)⟩)
      dsimp only [Pt.U, Pt.locs, Pt.cells, Pt.slots] at X626 l626 y626 z626 st626 hQ626
      replace l626 := l626.symm
      replace y626 : 3 = k626 := y626.symm
      replace z626 : 19 = n626 := z626.symm
      subst l626 y626 z626
      obtain ⟨rfl, M626, e626⟩ := hQ626
      have N626 := Fr.app N352 M626
      have pre627 : ∀ t, Steps p.tables e below (T626.setTop (mkF m 76 #[iv p0, iv p1, iv p2, iv p3, iv p4, iv p5, iv (2 : Int32), rv b340, iv (1 : Int32), .unset, .unset] [(.int p1)])) t → Steps p.tables e below (s₁.setTop (entryFrame m #[(.int p0), (.int p1), (.int p2), (.int p3), (.int p4), (.int p5)] maxLocals)) t := fun t kt => pre625 _ (st626.trans kt)
      have pre628 : ∀ t, Steps p.tables e below (T626.setTop (mkF m 84 #[iv p0, iv p1, iv p2, iv p3, iv p4, iv p5, iv (2 : Int32), rv b340, iv (1 : Int32), iv p1, .unset] [(.int (1 : Int32)), (.ref b340)])) t → Steps p.tables e below (s₁.setTop (entryFrame m #[(.int p0), (.int p1), (.int p2), (.int p3), (.int p4), (.int p5)] maxLocals)) t := fun t kt => by
        refine pre627 _ ?_
        show Steps p.tables e below (T626.setTop (mkF m 76 #[iv p0, iv p1, iv p2, iv p3, iv p4, iv p5, iv (2 : Int32), rv b340, iv (1 : Int32), .unset, .unset] [(.int p1)])) _
        refine XS.istore X626.here hx rfl (hb hby at_76) rfl (l' := #[iv p0, iv p1, iv p2, iv p3, iv p4, iv p5, iv (2 : Int32), rv b340, iv (1 : Int32), iv p1, .unset]) rfl ?_
        show Steps p.tables e below (T626.setTop (mkF m 78 #[iv p0, iv p1, iv p2, iv p3, iv p4, iv p5, iv (2 : Int32), rv b340, iv (1 : Int32), iv p1, .unset] [])) _
        refine XS.aload X626.here hx rfl (hb hby at_78) rfl rfl ?_
        show Steps p.tables e below (T626.setTop (mkF m 80 #[iv p0, iv p1, iv p2, iv p3, iv p4, iv p5, iv (2 : Int32), rv b340, iv (1 : Int32), iv p1, .unset] [(.ref b340)])) _
        refine XS.iload X626.here hx rfl (hb hby at_80) rfl ?_
        show Steps p.tables e below (T626.setTop (mkF m 82 #[iv p0, iv p1, iv p2, iv p3, iv p4, iv p5, iv (2 : Int32), rv b340, iv (1 : Int32), iv p1, .unset] [(.int (2 : Int32)), (.ref b340)])) _
        refine XS.iconst X626.here hx rfl (hb hby at_82) ?_
        show Steps p.tables e below (T626.setTop (mkF m 83 #[iv p0, iv p1, iv p2, iv p3, iv p4, iv p5, iv (2 : Int32), rv b340, iv (1 : Int32), iv p1, .unset] [(.int (1 : Int32)), (.int (2 : Int32)), (.ref b340)])) _
        refine XS.isub X626.here hx rfl (hb hby at_83) rfl ?_
        show  Steps p.tables e below (T626.setTop (mkF m 84 #[iv p0, iv p1, iv p2, iv p3, iv p4, iv p5, iv (2 : Int32), rv b340, iv (1 : Int32), iv p1, .unset] [(.int ((2 : Int32) - (1 : Int32))), (.ref b340)])) _
        rw [(by decide : (((2 : Int32) - (1 : Int32)) : Int32) = (1 : Int32))]
        exact kt
      obtain ⟨cq629, kq629, q629a, q629b, q629c⟩ := isOf hZ e626 J352_0
      obtain ⟨_, _, ⟨T629, L629, k629, n629⟩, -, X629, ⟨Lc629, hQ629, l629, y629, z629⟩, st629⟩ := X626.virtualBack hx (y := (⟨"org/reachwatch/IntBlocks", "get", "(I)I"⟩ : MethodName)) (z := (⟨"org/reachwatch/IntBlocks", "get", "(I)I"⟩ : MethodName)) hown (mvT hZ (W 24 rfl)) (mvT hZ (W 25 rfl)) (notFace_of_selects (args := #[]) (mvT hZ (W 27 rfl))) (mvT hZ (W 27 rfl)) (mvT hZ (W 26 rfl)) (by decide) (backOf (W := 0) (rm_get4_2 l Z a0 hw [] b340 k51_346 b51_346 b221_349 p0 p1 k221_349 h352 n0 O352 F504 J352_1 J352_3 J352_4) hZ (W 28 rfl) (W 2 rfl) (by decide) (by decide)) q629a q629c (g := (mkF m 84 #[iv p0, iv p1, iv p2, iv p3, iv p4, iv p5, iv (2 : Int32), rv b340, iv (1 : Int32), iv p1, .unset] [(.int (1 : Int32)), (.ref b340)])) rfl (by rw [hml]; rfl) (Steps.refl _) (argsL := [(.int (1 : Int32))]) (rest := []) (lenOf pd_14 rfl) rfl (by show 2 * 0 + _ ≤ _; exact Nat.le_of_eq rfl) (hb hby at_84) (fun _ _ => ⟨rfl, e626, (by decide : 3 + 0 ≤ _), (by decide : 19 + 0 ≤ _)⟩)
      dsimp only [Pt.U, Pt.locs, Pt.cells, Pt.slots] at X629 l629 y629 z629 st629 hQ629
      replace l629 := l629.symm
      replace y629 : 3 = k629 := y629.symm
      replace z629 : 19 = n629 := z629.symm
      subst l629 y629 z629
      obtain ⟨rfl, M629, e629⟩ := hQ629
      have N629 := Fr.app N626 M629
      have pre630 : ∀ t, Steps p.tables e below (T629.setTop (mkF m 87 #[iv p0, iv p1, iv p2, iv p3, iv p4, iv p5, iv (2 : Int32), rv b340, iv (1 : Int32), iv p1, .unset] [(.int p1)])) t → Steps p.tables e below (s₁.setTop (entryFrame m #[(.int p0), (.int p1), (.int p2), (.int p3), (.int p4), (.int p5)] maxLocals)) t := fun t kt => pre628 _ (st629.trans kt)
      have pre631 : ∀ t, Steps p.tables e below (T629.setTop (mkF m 97 #[iv p0, iv p1, iv p2, iv p3, iv p4, iv p5, iv (2 : Int32), rv b340, iv (1 : Int32), iv p1, iv p1] [(.int p3), (.int p2), (.int p1), (.int p0), (.int (1 : Int32)), (.int p1)])) t → Steps p.tables e below (s₁.setTop (entryFrame m #[(.int p0), (.int p1), (.int p2), (.int p3), (.int p4), (.int p5)] maxLocals)) t := fun t kt => by
        refine pre630 _ ?_
        show Steps p.tables e below (T629.setTop (mkF m 87 #[iv p0, iv p1, iv p2, iv p3, iv p4, iv p5, iv (2 : Int32), rv b340, iv (1 : Int32), iv p1, .unset] [(.int p1)])) _
        refine XS.istore X629.here hx rfl (hb hby at_87) rfl (l' := #[iv p0, iv p1, iv p2, iv p3, iv p4, iv p5, iv (2 : Int32), rv b340, iv (1 : Int32), iv p1, iv p1]) rfl ?_
        show Steps p.tables e below (T629.setTop (mkF m 89 #[iv p0, iv p1, iv p2, iv p3, iv p4, iv p5, iv (2 : Int32), rv b340, iv (1 : Int32), iv p1, iv p1] [])) _
        refine XS.iload X629.here hx rfl (hb hby at_89) rfl ?_
        show Steps p.tables e below (T629.setTop (mkF m 91 #[iv p0, iv p1, iv p2, iv p3, iv p4, iv p5, iv (2 : Int32), rv b340, iv (1 : Int32), iv p1, iv p1] [(.int p1)])) _
        refine XS.iload X629.here hx rfl (hb hby at_91) rfl ?_
        show Steps p.tables e below (T629.setTop (mkF m 93 #[iv p0, iv p1, iv p2, iv p3, iv p4, iv p5, iv (2 : Int32), rv b340, iv (1 : Int32), iv p1, iv p1] [(.int (1 : Int32)), (.int p1)])) _
        refine XS.iloadN X629.here hx rfl (hb hby at_93) rfl ?_
        show Steps p.tables e below (T629.setTop (mkF m 94 #[iv p0, iv p1, iv p2, iv p3, iv p4, iv p5, iv (2 : Int32), rv b340, iv (1 : Int32), iv p1, iv p1] [(.int p0), (.int (1 : Int32)), (.int p1)])) _
        refine XS.iloadN X629.here hx rfl (hb hby at_94) rfl ?_
        show Steps p.tables e below (T629.setTop (mkF m 95 #[iv p0, iv p1, iv p2, iv p3, iv p4, iv p5, iv (2 : Int32), rv b340, iv (1 : Int32), iv p1, iv p1] [(.int p1), (.int p0), (.int (1 : Int32)), (.int p1)])) _
        refine XS.iloadN X629.here hx rfl (hb hby at_95) rfl ?_
        show Steps p.tables e below (T629.setTop (mkF m 96 #[iv p0, iv p1, iv p2, iv p3, iv p4, iv p5, iv (2 : Int32), rv b340, iv (1 : Int32), iv p1, iv p1] [(.int p2), (.int p1), (.int p0), (.int (1 : Int32)), (.int p1)])) _
        refine XS.iloadN X629.here hx rfl (hb hby at_96) rfl ?_
        exact kt
      obtain ⟨_, _, ⟨T632, L632, k632, n632⟩, -, X632, ⟨Lc632, hQ632, l632, y632, z632⟩, st632⟩ := Jvm.LawKit.callS X629 hx (y := (⟨"org/reachwatch/IntBlocksGetPinLaw", "ref", "(IIIII)I"⟩ : MethodName)) hown (mvT hZ (W 37 rfl)) (mvT hZ (W 38 rfl)) (mvT hZ (W 39 rfl)) (mvT hZ (W 40 rfl)) (by decide) (backOf (W := 1) (rm_ref7_1 l Z a0 hw [] p0 p1 p2 p3 h352 n0 O352) hZ (W 40 rfl) (W 39 rfl) (by decide) (by decide)) (g := (mkF m 97 #[iv p0, iv p1, iv p2, iv p3, iv p4, iv p5, iv (2 : Int32), rv b340, iv (1 : Int32), iv p1, iv p1] [(.int p3), (.int p2), (.int p1), (.int p0), (.int (1 : Int32)), (.int p1)])) rfl (by rw [hml]; rfl) (argsL := [(.int (1 : Int32)), (.int p0), (.int p1), (.int p2), (.int p3)]) (rest := [(.int p1)]) (lenOf pd_16 rfl) rfl (by show 2 * 0 + _ ≤ _; exact Nat.le_of_eq rfl) (hb hby at_97) (fun _ _ => ⟨rfl, e629, (by decide : 3 + 0 ≤ _), (by decide : 19 + 0 ≤ _)⟩)
      dsimp only [Pt.U, Pt.locs, Pt.cells, Pt.slots] at X632 l632 y632 z632 st632 hQ632
      replace l632 := l632.symm
      replace y632 : 3 = k632 := y632.symm
      replace z632 : 19 = n632 := z632.symm
      subst l632 y632 z632
      obtain ⟨rfl, M632, e632⟩ := hQ632
      have N632 := Fr.app N629 M632
      have pre633 : ∀ t, Steps p.tables e below (T632.setTop (mkF m 100 #[iv p0, iv p1, iv p2, iv p3, iv p4, iv p5, iv (2 : Int32), rv b340, iv (1 : Int32), iv p1, iv p1] [(.int p1), (.int p1)])) t → Steps p.tables e below (s₁.setTop (entryFrame m #[(.int p0), (.int p1), (.int p2), (.int p3), (.int p4), (.int p5)] maxLocals)) t := fun t kt => pre631 _ (st632 _ kt)
      have pre634 : ∀ t, Steps p.tables e below (T632.setTop (mkF m 113 #[iv p0, iv p1, iv p2, iv p3, iv p4, iv p5, iv (2 : Int32), rv b340, iv (1 : Int32), iv p1, iv p1] [(.int p3), (.int p2), (.int p1), (.int p0), (.int (1 : Int32)), (.int p1)])) t → Steps p.tables e below (s₁.setTop (entryFrame m #[(.int p0), (.int p1), (.int p2), (.int p3), (.int p4), (.int p5)] maxLocals)) t := fun t kt => by
        refine pre633 _ ?_
        show Steps p.tables e below (T632.setTop (mkF m 100 #[iv p0, iv p1, iv p2, iv p3, iv p4, iv p5, iv (2 : Int32), rv b340, iv (1 : Int32), iv p1, iv p1] [(.int p1), (.int p1)])) _
        refine XS.icmpNo X632.here hx rfl (hb hby at_100) rfl (XT.ii_ne_f rfl) ?_
        show Steps p.tables e below (T632.setTop (mkF m 103 #[iv p0, iv p1, iv p2, iv p3, iv p4, iv p5, iv (2 : Int32), rv b340, iv (1 : Int32), iv p1, iv p1] [])) _
        refine XS.iload X632.here hx rfl (hb hby at_103) rfl ?_
        show Steps p.tables e below (T632.setTop (mkF m 105 #[iv p0, iv p1, iv p2, iv p3, iv p4, iv p5, iv (2 : Int32), rv b340, iv (1 : Int32), iv p1, iv p1] [(.int p1)])) _
        refine XS.iload X632.here hx rfl (hb hby at_105) rfl ?_
        show Steps p.tables e below (T632.setTop (mkF m 107 #[iv p0, iv p1, iv p2, iv p3, iv p4, iv p5, iv (2 : Int32), rv b340, iv (1 : Int32), iv p1, iv p1] [(.int (2 : Int32)), (.int p1)])) _
        refine XS.iconst X632.here hx rfl (hb hby at_107) ?_
        show Steps p.tables e below (T632.setTop (mkF m 108 #[iv p0, iv p1, iv p2, iv p3, iv p4, iv p5, iv (2 : Int32), rv b340, iv (1 : Int32), iv p1, iv p1] [(.int (1 : Int32)), (.int (2 : Int32)), (.int p1)])) _
        refine XS.isub X632.here hx rfl (hb hby at_108) rfl ?_
        show  Steps p.tables e below (T632.setTop (mkF m 109 #[iv p0, iv p1, iv p2, iv p3, iv p4, iv p5, iv (2 : Int32), rv b340, iv (1 : Int32), iv p1, iv p1] [(.int ((2 : Int32) - (1 : Int32))), (.int p1)])) _
        rw [(by decide : (((2 : Int32) - (1 : Int32)) : Int32) = (1 : Int32))]
        show Steps p.tables e below (T632.setTop (mkF m 109 #[iv p0, iv p1, iv p2, iv p3, iv p4, iv p5, iv (2 : Int32), rv b340, iv (1 : Int32), iv p1, iv p1] [(.int (1 : Int32)), (.int p1)])) _
        refine XS.iloadN X632.here hx rfl (hb hby at_109) rfl ?_
        show Steps p.tables e below (T632.setTop (mkF m 110 #[iv p0, iv p1, iv p2, iv p3, iv p4, iv p5, iv (2 : Int32), rv b340, iv (1 : Int32), iv p1, iv p1] [(.int p0), (.int (1 : Int32)), (.int p1)])) _
        refine XS.iloadN X632.here hx rfl (hb hby at_110) rfl ?_
        show Steps p.tables e below (T632.setTop (mkF m 111 #[iv p0, iv p1, iv p2, iv p3, iv p4, iv p5, iv (2 : Int32), rv b340, iv (1 : Int32), iv p1, iv p1] [(.int p1), (.int p0), (.int (1 : Int32)), (.int p1)])) _
        refine XS.iloadN X632.here hx rfl (hb hby at_111) rfl ?_
        show Steps p.tables e below (T632.setTop (mkF m 112 #[iv p0, iv p1, iv p2, iv p3, iv p4, iv p5, iv (2 : Int32), rv b340, iv (1 : Int32), iv p1, iv p1] [(.int p2), (.int p1), (.int p0), (.int (1 : Int32)), (.int p1)])) _
        refine XS.iloadN X632.here hx rfl (hb hby at_112) rfl ?_
        exact kt
      obtain ⟨_, _, ⟨T635, L635, k635, n635⟩, -, X635, ⟨Lc635, hQ635, l635, y635, z635⟩, st635⟩ := Jvm.LawKit.callS X632 hx (y := (⟨"org/reachwatch/IntBlocksGetPinLaw", "ref", "(IIIII)I"⟩ : MethodName)) hown (mvT hZ (W 37 rfl)) (mvT hZ (W 38 rfl)) (mvT hZ (W 39 rfl)) (mvT hZ (W 40 rfl)) (by decide) (backOf (W := 1) (rm_ref7_1 l Z a0 hw [] p0 p1 p2 p3 h352 n0 O352) hZ (W 40 rfl) (W 39 rfl) (by decide) (by decide)) (g := (mkF m 113 #[iv p0, iv p1, iv p2, iv p3, iv p4, iv p5, iv (2 : Int32), rv b340, iv (1 : Int32), iv p1, iv p1] [(.int p3), (.int p2), (.int p1), (.int p0), (.int (1 : Int32)), (.int p1)])) rfl (by rw [hml]; rfl) (argsL := [(.int (1 : Int32)), (.int p0), (.int p1), (.int p2), (.int p3)]) (rest := [(.int p1)]) (lenOf pd_16 rfl) rfl (by show 2 * 0 + _ ≤ _; exact Nat.le_of_eq rfl) (hb hby at_113) (fun _ _ => ⟨rfl, e632, (by decide : 3 + 0 ≤ _), (by decide : 19 + 0 ≤ _)⟩)
      dsimp only [Pt.U, Pt.locs, Pt.cells, Pt.slots] at X635 l635 y635 z635 st635 hQ635
      replace l635 := l635.symm
      replace y635 : 3 = k635 := y635.symm
      replace z635 : 19 = n635 := z635.symm
      subst l635 y635 z635
      obtain ⟨rfl, M635, e635⟩ := hQ635
      have N635 := Fr.app N632 M635
      have pre636 : ∀ t, Steps p.tables e below (T635.setTop (mkF m 116 #[iv p0, iv p1, iv p2, iv p3, iv p4, iv p5, iv (2 : Int32), rv b340, iv (1 : Int32), iv p1, iv p1] [(.int p1), (.int p1)])) t → Steps p.tables e below (s₁.setTop (entryFrame m #[(.int p0), (.int p1), (.int p2), (.int p3), (.int p4), (.int p5)] maxLocals)) t := fun t kt => pre634 _ (st635 _ kt)
      have pre637 : ∀ t, Steps p.tables e below (T635.setTop (mkF m 124 #[iv p0, iv p1, iv p2, iv p3, iv p4, iv p5, iv (2 : Int32), rv b340, iv (1 : Int32), iv p1, iv p1] [(.int (1 : Int32))])) t → Steps p.tables e below (s₁.setTop (entryFrame m #[(.int p0), (.int p1), (.int p2), (.int p3), (.int p4), (.int p5)] maxLocals)) t := fun t kt => by
        refine pre636 _ ?_
        show Steps p.tables e below (T635.setTop (mkF m 116 #[iv p0, iv p1, iv p2, iv p3, iv p4, iv p5, iv (2 : Int32), rv b340, iv (1 : Int32), iv p1, iv p1] [(.int p1), (.int p1)])) _
        refine XS.icmpNo X635.here hx rfl (hb hby at_116) rfl (XT.ii_ne_f rfl) ?_
        show Steps p.tables e below (T635.setTop (mkF m 119 #[iv p0, iv p1, iv p2, iv p3, iv p4, iv p5, iv (2 : Int32), rv b340, iv (1 : Int32), iv p1, iv p1] [])) _
        refine XS.iconst X635.here hx rfl (hb hby at_119) ?_
        show Steps p.tables e below (T635.setTop (mkF m 120 #[iv p0, iv p1, iv p2, iv p3, iv p4, iv p5, iv (2 : Int32), rv b340, iv (1 : Int32), iv p1, iv p1] [(.int (1 : Int32))])) _
        refine XS.goto X635.here hx rfl (pc0 := 120) (pc' := 124) rfl (hb hby at_120) (by decide) (by decide) ?_
        exact kt
      obtain ⟨fs, hr, hrun, hended, hW, hsame⟩ := X635.leave (v := some (.int (1 : Int32))) (fun h => by rw [Bd.returns] at h; cases h)
      refine ⟨_, _, pre637 _ (retN X635 hx (t := .boolean) Bd.returns (by simp) (hb hby at_124) hr), hrun, hended, _, _, rfl, ?_, ⟨_, rfl⟩, hW, hsame.mono (by decide) (by decide)⟩
      show Q_law Z p0 p1 p2 p3 p4 p5 h0 n0 _ T635.heap _
      rw [e635]
      exact ⟨rfl, N635⟩
  · rw [hv2] at pre1
    have pre638 : ∀ t, Steps p.tables e below (s₁.setTop (mkF m 8 #[iv p0, iv p1, iv p2, iv p3, iv p4, iv p5, iv (3 : Int32), .unset, .unset, .unset, .unset] [])) t → Steps p.tables e below (s₁.setTop (entryFrame m #[(.int p0), (.int p1), (.int p2), (.int p3), (.int p4), (.int p5)] maxLocals)) t := fun t kt => by
      refine pre1 _ ?_
      show Steps p.tables e below (s₁.setTop (mkF m 4 #[iv p0, iv p1, iv p2, iv p3, iv p4, iv p5, .unset, .unset, .unset, .unset, .unset] [(.int (2 : Int32))])) _
      refine XS.iconst X0.here hx rfl (hb hby at_4) ?_
      show Steps p.tables e below (s₁.setTop (mkF m 5 #[iv p0, iv p1, iv p2, iv p3, iv p4, iv p5, .unset, .unset, .unset, .unset, .unset] [(.int (1 : Int32)), (.int (2 : Int32))])) _
      refine XS.iadd X0.here hx rfl (hb hby at_5) rfl ?_
      show  Steps p.tables e below (s₁.setTop (mkF m 6 #[iv p0, iv p1, iv p2, iv p3, iv p4, iv p5, .unset, .unset, .unset, .unset, .unset] [(.int ((2 : Int32) + (1 : Int32)))])) _
      rw [(by decide : (((2 : Int32) + (1 : Int32)) : Int32) = (3 : Int32))]
      show Steps p.tables e below (s₁.setTop (mkF m 6 #[iv p0, iv p1, iv p2, iv p3, iv p4, iv p5, .unset, .unset, .unset, .unset, .unset] [(.int (3 : Int32))])) _
      refine XS.istore X0.here hx rfl (hb hby at_6) rfl (l' := #[iv p0, iv p1, iv p2, iv p3, iv p4, iv p5, iv (3 : Int32), .unset, .unset, .unset, .unset]) rfl ?_
      exact kt
    obtain ⟨T639, h639, X639, e639, E639, A639, D639, -, st639⟩ := newO X0 hx hZ hown (W 0 rfl) (W 1 rfl) (W 2 rfl) e0 (g := (mkF m 8 #[iv p0, iv p1, iv p2, iv p3, iv p4, iv p5, iv (3 : Int32), .unset, .unset, .unset, .unset] [])) rfl (hb hby at_8) (by decide) (by decide)
    obtain ⟨b639, g639⟩ : ∃ z, z = h0.size := ⟨_, rfl⟩
    rw [← g639] at A639 D639 st639
    have pre640 : ∀ t, Steps p.tables e below (T639.setTop (mkF m 11 #[iv p0, iv p1, iv p2, iv p3, iv p4, iv p5, iv (3 : Int32), .unset, .unset, .unset, .unset] [(.ref b639)])) t → Steps p.tables e below (s₁.setTop (entryFrame m #[(.int p0), (.int p1), (.int p2), (.int p3), (.int p4), (.int p5)] maxLocals)) t := fun t kt => pre638 _ (st639 _ kt)
    have O639 := O0.ext E639
    have K639 : Keep h0 h639 [] := K0.ext E639
    have g_b639 : n0 ≤ b639 := Nat.le_trans (Nat.le_trans (Nat.le_of_eq O0.1.symm) O0.2.1) (Nat.le_of_eq g639.symm)
    have sz_b639 : h0.size ≤ b639 := Nat.le_trans K0.1 (Nat.le_of_eq g639.symm)
    have F641 : Exa Z h639 b639 "org/reachwatch/IntBlocks" := A639
    have F642 : Fld Z h639 b639 "org/reachwatch/IntBlocks" "blocks" "[[I" .null := D639 (Or.inl (W 12 rfl)) (ty := (.array (.array .int))) (by decide)
    have F643 : Fld Z h639 b639 "org/reachwatch/IntBlocks" "size" "I" (.int (0 : Int32)) := D639 (Or.inl (W 19 rfl)) (ty := .int) (by decide)
    have pre644 : ∀ t, Steps p.tables e below (T639.setTop (mkF m 12 #[iv p0, iv p1, iv p2, iv p3, iv p4, iv p5, iv (3 : Int32), .unset, .unset, .unset, .unset] [(.ref b639), (.ref b639)])) t → Steps p.tables e below (s₁.setTop (entryFrame m #[(.int p0), (.int p1), (.int p2), (.int p3), (.int p4), (.int p5)] maxLocals)) t := fun t kt => by
      refine pre640 _ ?_
      show Steps p.tables e below (T639.setTop (mkF m 11 #[iv p0, iv p1, iv p2, iv p3, iv p4, iv p5, iv (3 : Int32), .unset, .unset, .unset, .unset] [(.ref b639)])) _
      refine XS.dup X639.here hx rfl (hb hby at_11) rfl rfl ?_
      exact kt
    obtain ⟨_, _, ⟨T645, L645, k645, n645⟩, -, X645, ⟨Lc645, hQ645, l645, y645, z645⟩, st645⟩ := X639.specialBack hx (y := (⟨"org/reachwatch/IntBlocks", "<init>", "()V"⟩ : MethodName)) rfl hown (mvT hZ (W 3 rfl)) (mvT hZ (W 4 rfl)) (mvT hZ (W 5 rfl)) (by decide) (backOf (W := 1) (rm_init1_0 l Z a0 hw [] b639 h639 n0 O639 g_b639 F641 F642 F643) hZ (W 5 rfl) (W 2 rfl) (by decide) (by decide)) (g := (mkF m 12 #[iv p0, iv p1, iv p2, iv p3, iv p4, iv p5, iv (3 : Int32), .unset, .unset, .unset, .unset] [(.ref b639), (.ref b639)])) rfl (by rw [hml]; rfl) (Steps.refl _) (a := b639) (argsL := []) (rest := [(.ref b639)]) (lenOf pd_4 rfl) rfl (by show 2 * 0 + _ ≤ _; exact Nat.le_of_eq rfl) (hb hby at_12) (fun _ _ => ⟨rfl, e639, (by decide : 1 + 1 ≤ _), (by decide : 2 + 1 ≤ _)⟩)
    dsimp only [Pt.U, Pt.locs, Pt.cells, Pt.slots] at X645 l645 y645 z645 st645 hQ645
    replace l645 := l645.symm
    replace y645 : 2 = k645 := y645.symm
    replace z645 : 3 = n645 := z645.symm
    subst l645 y645 z645
    obtain ⟨b51_645, k51_645, rfl, M645, Kc645, O645, J645_0, J645_1, J645_2, J645_3, J645_4, J645_5, P645_0⟩ := hQ645
    obtain ⟨h645, e645⟩ : ∃ z, T645.heap = z := ⟨_, rfl⟩
    rw [e645] at Kc645 O645 J645_0 J645_1 J645_2 J645_4 J645_5
    try rw [e645] at P645_0
    have N645 := Fr.app N0 M645
    have K645 : Keep h0 h645 [] := K639.trans Kc645 (own_all1 (Or.inr sz_b639))
    have pre646 : ∀ t, Steps p.tables e below (T645.setTop (mkF m 15 #[iv p0, iv p1, iv p2, iv p3, iv p4, iv p5, iv (3 : Int32), .unset, .unset, .unset, .unset] [(.ref b639)])) t → Steps p.tables e below (s₁.setTop (entryFrame m #[(.int p0), (.int p1), (.int p2), (.int p3), (.int p4), (.int p5)] maxLocals)) t := fun t kt => pre644 _ (st645.trans kt)
    have sz_b51_645 : h0.size ≤ b51_645 := Nat.le_trans K639.1 P645_0
    have ne_b639_b51_645 : b639 ≠ b51_645 := Nat.ne_of_lt (Nat.lt_of_lt_of_le F641.lt P645_0)
    have g_b51_645 : n0 ≤ b51_645 := Nat.le_trans (Nat.le_trans (Nat.le_of_eq O0.1.symm) O0.2.1) sz_b51_645
    have pre647 : ∀ t, Steps p.tables e below (T645.setTop (mkF m 20 #[iv p0, iv p1, iv p2, iv p3, iv p4, iv p5, iv (3 : Int32), rv b639, .unset, .unset, .unset] [(.int p0), (.ref b639)])) t → Steps p.tables e below (s₁.setTop (entryFrame m #[(.int p0), (.int p1), (.int p2), (.int p3), (.int p4), (.int p5)] maxLocals)) t := fun t kt => by
      refine pre646 _ ?_
      show Steps p.tables e below (T645.setTop (mkF m 15 #[iv p0, iv p1, iv p2, iv p3, iv p4, iv p5, iv (3 : Int32), .unset, .unset, .unset, .unset] [(.ref b639)])) _
      refine XS.astore X645.here hx rfl (hb hby at_15) rfl rfl (l' := #[iv p0, iv p1, iv p2, iv p3, iv p4, iv p5, iv (3 : Int32), rv b639, .unset, .unset, .unset]) rfl ?_
      show Steps p.tables e below (T645.setTop (mkF m 17 #[iv p0, iv p1, iv p2, iv p3, iv p4, iv p5, iv (3 : Int32), rv b639, .unset, .unset, .unset] [])) _
      refine XS.aload X645.here hx rfl (hb hby at_17) rfl rfl ?_
      show Steps p.tables e below (T645.setTop (mkF m 19 #[iv p0, iv p1, iv p2, iv p3, iv p4, iv p5, iv (3 : Int32), rv b639, .unset, .unset, .unset] [(.ref b639)])) _
      refine XS.iloadN X645.here hx rfl (hb hby at_19) rfl ?_
      exact kt
    obtain ⟨cq648, kq648, q648a, q648b, q648c⟩ := isOf hZ e645 J645_0
    obtain ⟨_, _, ⟨T648, L648, k648, n648⟩, -, X648, ⟨Lc648, hQ648, l648, y648, z648⟩, st648⟩ := X645.virtualBack hx (y := (⟨"org/reachwatch/IntBlocks", "add", "(I)V"⟩ : MethodName)) (z := (⟨"org/reachwatch/IntBlocks", "add", "(I)V"⟩ : MethodName)) hown (mvT hZ (W 13 rfl)) (mvT hZ (W 14 rfl)) (notFace_of_selects (args := #[]) (mvT hZ (W 16 rfl))) (mvT hZ (W 16 rfl)) (mvT hZ (W 15 rfl)) (by decide) (backOf (W := 0) (rm_add3_0 l Z a0 hw [] b639 p0 b51_645 k51_645 h645 n0 O645 g_b639 g_b51_645 J645_0 J645_1 J645_2 J645_3 J645_4 J645_5 (fun q => ne_b639_b51_645 q.symm)) hZ (W 17 rfl) (W 2 rfl) (by decide) (by decide)) q648a q648c (g := (mkF m 20 #[iv p0, iv p1, iv p2, iv p3, iv p4, iv p5, iv (3 : Int32), rv b639, .unset, .unset, .unset] [(.int p0), (.ref b639)])) rfl (by rw [hml]; rfl) (Steps.refl _) (argsL := [(.int p0)]) (rest := []) (lenOf pd_6 rfl) rfl (by show 2 * 0 + _ ≤ _; exact Nat.le_of_eq rfl) (hb hby at_20) (fun _ _ => ⟨rfl, e645, (by decide : 2 + 1 ≤ _), (by decide : 3 + 16 ≤ _)⟩)
    dsimp only [Pt.U, Pt.locs, Pt.cells, Pt.slots] at X648 l648 y648 z648 st648 hQ648
    replace l648 := l648.symm
    replace y648 : 3 = k648 := y648.symm
    replace z648 : 19 = n648 := z648.symm
    subst l648 y648 z648
    obtain ⟨b221_648, k221_648, rfl, M648, Kc648, O648, J648_0, J648_1, J648_2, J648_3, J648_4, J648_5, J648_6, P648_0⟩ := hQ648
    obtain ⟨h648, e648⟩ : ∃ z, T648.heap = z := ⟨_, rfl⟩
    rw [e648] at Kc648 O648 J648_0 J648_1 J648_2 J648_3 J648_4 J648_5 J648_6
    try rw [e648] at P648_0
    have N648 := Fr.app N645 M648
    have K648 : Keep h0 h648 [] := K645.trans Kc648 (own_all2 (Or.inr sz_b639) (Or.inr sz_b51_645))
    have pre649 : ∀ t, Steps p.tables e below (T648.setTop (mkF m 23 #[iv p0, iv p1, iv p2, iv p3, iv p4, iv p5, iv (3 : Int32), rv b639, .unset, .unset, .unset] [])) t → Steps p.tables e below (s₁.setTop (entryFrame m #[(.int p0), (.int p1), (.int p2), (.int p3), (.int p4), (.int p5)] maxLocals)) t := fun t kt => pre647 _ (st648.trans kt)
    have sz_b221_648 : h0.size ≤ b221_648 := Nat.le_trans K645.1 P648_0
    have ne_b639_b221_648 : b639 ≠ b221_648 := Nat.ne_of_lt (Nat.lt_of_lt_of_le J645_0.lt P648_0)
    have ne_b51_645_b221_648 : b51_645 ≠ b221_648 := Nat.ne_of_lt (Nat.lt_of_lt_of_le J645_2.lt P648_0)
    have g_b221_648 : n0 ≤ b221_648 := Nat.le_trans (Nat.le_trans (Nat.le_of_eq O0.1.symm) O0.2.1) sz_b221_648
    have pre650 : ∀ t, Steps p.tables e below (T648.setTop (mkF m 32 #[iv p0, iv p1, iv p2, iv p3, iv p4, iv p5, iv (3 : Int32), rv b639, .unset, .unset, .unset] [(.int p1), (.ref b639)])) t → Steps p.tables e below (s₁.setTop (entryFrame m #[(.int p0), (.int p1), (.int p2), (.int p3), (.int p4), (.int p5)] maxLocals)) t := fun t kt => by
      refine pre649 _ ?_
      show Steps p.tables e below (T648.setTop (mkF m 23 #[iv p0, iv p1, iv p2, iv p3, iv p4, iv p5, iv (3 : Int32), rv b639, .unset, .unset, .unset] [])) _
      refine XS.iload X648.here hx rfl (hb hby at_23) rfl ?_
      show Steps p.tables e below (T648.setTop (mkF m 25 #[iv p0, iv p1, iv p2, iv p3, iv p4, iv p5, iv (3 : Int32), rv b639, .unset, .unset, .unset] [(.int (3 : Int32))])) _
      refine XS.iconst X648.here hx rfl (hb hby at_25) ?_
      show Steps p.tables e below (T648.setTop (mkF m 26 #[iv p0, iv p1, iv p2, iv p3, iv p4, iv p5, iv (3 : Int32), rv b639, .unset, .unset, .unset] [(.int (2 : Int32)), (.int (3 : Int32))])) _
      refine XS.icmpNo X648.here hx rfl (hb hby at_26) rfl (XT.ii_lt_f (by decide)) ?_
      show Steps p.tables e below (T648.setTop (mkF m 29 #[iv p0, iv p1, iv p2, iv p3, iv p4, iv p5, iv (3 : Int32), rv b639, .unset, .unset, .unset] [])) _
      refine XS.aload X648.here hx rfl (hb hby at_29) rfl rfl ?_
      show Steps p.tables e below (T648.setTop (mkF m 31 #[iv p0, iv p1, iv p2, iv p3, iv p4, iv p5, iv (3 : Int32), rv b639, .unset, .unset, .unset] [(.ref b639)])) _
      refine XS.iloadN X648.here hx rfl (hb hby at_31) rfl ?_
      exact kt
    obtain ⟨cq651, kq651, q651a, q651b, q651c⟩ := isOf hZ e648 J648_0
    obtain ⟨_, _, ⟨T651, L651, k651, n651⟩, -, X651, ⟨Lc651, hQ651, l651, y651, z651⟩, st651⟩ := X648.virtualBack hx (y := (⟨"org/reachwatch/IntBlocks", "add", "(I)V"⟩ : MethodName)) (z := (⟨"org/reachwatch/IntBlocks", "add", "(I)V"⟩ : MethodName)) hown (mvT hZ (W 13 rfl)) (mvT hZ (W 14 rfl)) (notFace_of_selects (args := #[]) (mvT hZ (W 16 rfl))) (mvT hZ (W 16 rfl)) (mvT hZ (W 15 rfl)) (by decide) (backOf (W := 0) (rm_add3_1 l Z a0 hw [] b639 p1 k51_645 b51_645 b221_648 p0 k221_648 h648 n0 O648 g_b639 g_b221_648 J648_0 J648_2 J648_3 J648_4 J648_5 J648_6 (fun q => ne_b639_b51_645 q.symm) (fun q => ne_b639_b221_648 q.symm) (fun q => ne_b51_645_b221_648 q.symm)) hZ (W 17 rfl) (W 2 rfl) (by decide) (by decide)) q651a q651c (g := (mkF m 32 #[iv p0, iv p1, iv p2, iv p3, iv p4, iv p5, iv (3 : Int32), rv b639, .unset, .unset, .unset] [(.int p1), (.ref b639)])) rfl (by rw [hml]; rfl) (Steps.refl _) (argsL := [(.int p1)]) (rest := []) (lenOf pd_6 rfl) rfl (by show 2 * 0 + _ ≤ _; exact Nat.le_of_eq rfl) (hb hby at_32) (fun _ _ => ⟨rfl, e648, (by decide : 3 + 0 ≤ _), (by decide : 19 + 0 ≤ _)⟩)
    dsimp only [Pt.U, Pt.locs, Pt.cells, Pt.slots] at X651 l651 y651 z651 st651 hQ651
    replace l651 := l651.symm
    replace y651 : 3 = k651 := y651.symm
    replace z651 : 19 = n651 := z651.symm
    subst l651 y651 z651
    obtain ⟨rfl, M651, Kc651, O651, J651_0, J651_1, J651_2, J651_3, J651_4⟩ := hQ651
    obtain ⟨h651, e651⟩ : ∃ z, T651.heap = z := ⟨_, rfl⟩
    rw [e651] at Kc651 O651 J651_0 J651_1 J651_2 J651_3 J651_4
    have N651 := Fr.app N648 M651
    have K651 : Keep h0 h651 [] := K648.trans Kc651 (own_all2 (Or.inr sz_b639) (Or.inr sz_b221_648))
    have pre652 : ∀ t, Steps p.tables e below (T651.setTop (mkF m 35 #[iv p0, iv p1, iv p2, iv p3, iv p4, iv p5, iv (3 : Int32), rv b639, .unset, .unset, .unset] [])) t → Steps p.tables e below (s₁.setTop (entryFrame m #[(.int p0), (.int p1), (.int p2), (.int p3), (.int p4), (.int p5)] maxLocals)) t := fun t kt => pre650 _ (st651.trans kt)
    have F653 := J648_1.keep Kc651
    have F654 := J648_4.keep Kc651 (own_nm2 (fun q => ne_b639_b51_645 q.symm) ne_b51_645_b221_648)
    have pre655 : ∀ t, Steps p.tables e below (T651.setTop (mkF m 44 #[iv p0, iv p1, iv p2, iv p3, iv p4, iv p5, iv (3 : Int32), rv b639, .unset, .unset, .unset] [(.int p2), (.ref b639)])) t → Steps p.tables e below (s₁.setTop (entryFrame m #[(.int p0), (.int p1), (.int p2), (.int p3), (.int p4), (.int p5)] maxLocals)) t := fun t kt => by
      refine pre652 _ ?_
      show Steps p.tables e below (T651.setTop (mkF m 35 #[iv p0, iv p1, iv p2, iv p3, iv p4, iv p5, iv (3 : Int32), rv b639, .unset, .unset, .unset] [])) _
      refine XS.iload X651.here hx rfl (hb hby at_35) rfl ?_
      show Steps p.tables e below (T651.setTop (mkF m 37 #[iv p0, iv p1, iv p2, iv p3, iv p4, iv p5, iv (3 : Int32), rv b639, .unset, .unset, .unset] [(.int (3 : Int32))])) _
      refine XS.iconst X651.here hx rfl (hb hby at_37) ?_
      show Steps p.tables e below (T651.setTop (mkF m 38 #[iv p0, iv p1, iv p2, iv p3, iv p4, iv p5, iv (3 : Int32), rv b639, .unset, .unset, .unset] [(.int (3 : Int32)), (.int (3 : Int32))])) _
      refine XS.icmpNo X651.here hx rfl (hb hby at_38) rfl (XT.ii_lt_f (by decide)) ?_
      show Steps p.tables e below (T651.setTop (mkF m 41 #[iv p0, iv p1, iv p2, iv p3, iv p4, iv p5, iv (3 : Int32), rv b639, .unset, .unset, .unset] [])) _
      refine XS.aload X651.here hx rfl (hb hby at_41) rfl rfl ?_
      show Steps p.tables e below (T651.setTop (mkF m 43 #[iv p0, iv p1, iv p2, iv p3, iv p4, iv p5, iv (3 : Int32), rv b639, .unset, .unset, .unset] [(.ref b639)])) _
      refine XS.iloadN X651.here hx rfl (hb hby at_43) rfl ?_
      exact kt
    obtain ⟨cq656, kq656, q656a, q656b, q656c⟩ := isOf hZ e651 J651_0
    obtain ⟨_, _, ⟨T656, L656, k656, n656⟩, -, X656, ⟨Lc656, hQ656, l656, y656, z656⟩, st656⟩ := X651.virtualBack hx (y := (⟨"org/reachwatch/IntBlocks", "add", "(I)V"⟩ : MethodName)) (z := (⟨"org/reachwatch/IntBlocks", "add", "(I)V"⟩ : MethodName)) hown (mvT hZ (W 13 rfl)) (mvT hZ (W 14 rfl)) (notFace_of_selects (args := #[]) (mvT hZ (W 16 rfl))) (mvT hZ (W 16 rfl)) (mvT hZ (W 15 rfl)) (by decide) (backOf (W := 0) (rm_add3_2 l Z a0 hw [] b639 p2 k51_645 b51_645 b221_648 p0 p1 k221_648 h651 n0 O651 g_b639 g_b221_648 F654 J651_0 J651_1 J651_2 J651_3 J651_4 (fun q => ne_b639_b51_645 q.symm) (fun q => ne_b639_b221_648 q.symm) (fun q => ne_b51_645_b221_648 q.symm)) hZ (W 17 rfl) (W 2 rfl) (by decide) (by decide)) q656a q656c (g := (mkF m 44 #[iv p0, iv p1, iv p2, iv p3, iv p4, iv p5, iv (3 : Int32), rv b639, .unset, .unset, .unset] [(.int p2), (.ref b639)])) rfl (by rw [hml]; rfl) (Steps.refl _) (argsL := [(.int p2)]) (rest := []) (lenOf pd_6 rfl) rfl (by show 2 * 0 + _ ≤ _; exact Nat.le_of_eq rfl) (hb hby at_44) (fun _ _ => ⟨rfl, e651, (by decide : 3 + 0 ≤ _), (by decide : 19 + 0 ≤ _)⟩)
    dsimp only [Pt.U, Pt.locs, Pt.cells, Pt.slots] at X656 l656 y656 z656 st656 hQ656
    replace l656 := l656.symm
    replace y656 : 3 = k656 := y656.symm
    replace z656 : 19 = n656 := z656.symm
    subst l656 y656 z656
    obtain ⟨rfl, M656, Kc656, O656, J656_0, J656_1, J656_2, J656_3, J656_4⟩ := hQ656
    obtain ⟨h656, e656⟩ : ∃ z, T656.heap = z := ⟨_, rfl⟩
    rw [e656] at Kc656 O656 J656_0 J656_1 J656_2 J656_3 J656_4
    have N656 := Fr.app N651 M656
    have K656 : Keep h0 h656 [] := K651.trans Kc656 (own_all2 (Or.inr sz_b639) (Or.inr sz_b221_648))
    have pre806 : ∀ t, Steps p.tables e below (T656.setTop (mkF m 47 #[iv p0, iv p1, iv p2, iv p3, iv p4, iv p5, iv (3 : Int32), rv b639, .unset, .unset, .unset] [])) t → Steps p.tables e below (s₁.setTop (entryFrame m #[(.int p0), (.int p1), (.int p2), (.int p3), (.int p4), (.int p5)] maxLocals)) t := fun t kt => pre655 _ (st656.trans kt)
    have F807 := F653.keep Kc656
    have F808 := F654.keep Kc656 (own_nm2 (fun q => ne_b639_b51_645 q.symm) ne_b51_645_b221_648)
    have pre809 : ∀ t, Steps p.tables e below (T656.setTop (mkF m 67 #[iv p0, iv p1, iv p2, iv p3, iv p4, iv p5, iv (3 : Int32), rv b639, .unset, .unset, .unset] [(.int ((p5 &&& (2147483647 : Int32)) - ((p5 &&& (2147483647 : Int32)) / (3 : Int32)) * (3 : Int32)))])) t → Steps p.tables e below (s₁.setTop (entryFrame m #[(.int p0), (.int p1), (.int p2), (.int p3), (.int p4), (.int p5)] maxLocals)) t := fun t kt => by
      refine pre806 _ ?_
      show Steps p.tables e below (T656.setTop (mkF m 47 #[iv p0, iv p1, iv p2, iv p3, iv p4, iv p5, iv (3 : Int32), rv b639, .unset, .unset, .unset] [])) _
      refine XS.iload X656.here hx rfl (hb hby at_47) rfl ?_
      show Steps p.tables e below (T656.setTop (mkF m 49 #[iv p0, iv p1, iv p2, iv p3, iv p4, iv p5, iv (3 : Int32), rv b639, .unset, .unset, .unset] [(.int (3 : Int32))])) _
      refine XS.iconst X656.here hx rfl (hb hby at_49) ?_
      show Steps p.tables e below (T656.setTop (mkF m 50 #[iv p0, iv p1, iv p2, iv p3, iv p4, iv p5, iv (3 : Int32), rv b639, .unset, .unset, .unset] [(.int (4 : Int32)), (.int (3 : Int32))])) _
      refine XS.icmpYes X656.here hx rfl (pc0 := 50) (pc' := 59) rfl (hb hby at_50) rfl (XT.ii_lt_t (by decide)) (by decide) (by decide) ?_
      show Steps p.tables e below (T656.setTop (mkF m 59 #[iv p0, iv p1, iv p2, iv p3, iv p4, iv p5, iv (3 : Int32), rv b639, .unset, .unset, .unset] [])) _
      refine XS.iload X656.here hx rfl (hb hby at_59) rfl ?_
      show Steps p.tables e below (T656.setTop (mkF m 61 #[iv p0, iv p1, iv p2, iv p3, iv p4, iv p5, iv (3 : Int32), rv b639, .unset, .unset, .unset] [(.int p5)])) _
      refine X656.ldcInt hx hown (mvT hZ (W 23 rfl)) (g := (mkF m 61 #[iv p0, iv p1, iv p2, iv p3, iv p4, iv p5, iv (3 : Int32), rv b639, .unset, .unset, .unset] [(.int p5)])) rfl (hb hby at_61) _ ?_
      show Steps p.tables e below (T656.setTop (mkF m 63 #[iv p0, iv p1, iv p2, iv p3, iv p4, iv p5, iv (3 : Int32), rv b639, .unset, .unset, .unset] [(.int (2147483647 : Int32)), (.int p5)])) _
      refine XS.iand X656.here hx rfl (hb hby at_63) rfl ?_
      show Steps p.tables e below (T656.setTop (mkF m 64 #[iv p0, iv p1, iv p2, iv p3, iv p4, iv p5, iv (3 : Int32), rv b639, .unset, .unset, .unset] [(.int (p5 &&& (2147483647 : Int32)))])) _
      refine XS.iload X656.here hx rfl (hb hby at_64) rfl ?_
      show Steps p.tables e below (T656.setTop (mkF m 66 #[iv p0, iv p1, iv p2, iv p3, iv p4, iv p5, iv (3 : Int32), rv b639, .unset, .unset, .unset] [(.int (3 : Int32)), (.int (p5 &&& (2147483647 : Int32)))])) _
      refine XS.irem X656.here hx rfl (hb hby at_66) rfl (by decide) ?_
      exact kt
    rcases own_rem3 p5 with hv810 | hv810 | hv810
    · rw [hv810] at pre809
      have pre811 : ∀ t, Steps p.tables e below (T656.setTop (mkF m 73 #[iv p0, iv p1, iv p2, iv p3, iv p4, iv p5, iv (3 : Int32), rv b639, iv (0 : Int32), .unset, .unset] [(.int (0 : Int32)), (.ref b639)])) t → Steps p.tables e below (s₁.setTop (entryFrame m #[(.int p0), (.int p1), (.int p2), (.int p3), (.int p4), (.int p5)] maxLocals)) t := fun t kt => by
        refine pre809 _ ?_
        show Steps p.tables e below (T656.setTop (mkF m 67 #[iv p0, iv p1, iv p2, iv p3, iv p4, iv p5, iv (3 : Int32), rv b639, .unset, .unset, .unset] [(.int (0 : Int32))])) _
        refine XS.istore X656.here hx rfl (hb hby at_67) rfl (l' := #[iv p0, iv p1, iv p2, iv p3, iv p4, iv p5, iv (3 : Int32), rv b639, iv (0 : Int32), .unset, .unset]) rfl ?_
        show Steps p.tables e below (T656.setTop (mkF m 69 #[iv p0, iv p1, iv p2, iv p3, iv p4, iv p5, iv (3 : Int32), rv b639, iv (0 : Int32), .unset, .unset] [])) _
        refine XS.aload X656.here hx rfl (hb hby at_69) rfl rfl ?_
        show Steps p.tables e below (T656.setTop (mkF m 71 #[iv p0, iv p1, iv p2, iv p3, iv p4, iv p5, iv (3 : Int32), rv b639, iv (0 : Int32), .unset, .unset] [(.ref b639)])) _
        refine XS.iload X656.here hx rfl (hb hby at_71) rfl ?_
        exact kt
      obtain ⟨cq812, kq812, q812a, q812b, q812c⟩ := isOf hZ e656 J656_0
      obtain ⟨_, _, ⟨T812, L812, k812, n812⟩, -, X812, ⟨Lc812, hQ812, l812, y812, z812⟩, st812⟩ := X656.virtualBack hx (y := (⟨"org/reachwatch/IntBlocks", "get", "(I)I"⟩ : MethodName)) (z := (⟨"org/reachwatch/IntBlocks", "get", "(I)I"⟩ : MethodName)) hown (mvT hZ (W 24 rfl)) (mvT hZ (W 25 rfl)) (notFace_of_selects (args := #[]) (mvT hZ (W 27 rfl))) (mvT hZ (W 27 rfl)) (mvT hZ (W 26 rfl)) (by decide) (backOf (W := 0) (rm_get4_3 l Z a0 hw [] b639 k51_645 b51_645 b221_648 p0 p1 p2 k221_648 h656 n0 O656 F808 J656_1 J656_3 J656_4) hZ (W 28 rfl) (W 2 rfl) (by decide) (by decide)) q812a q812c (g := (mkF m 73 #[iv p0, iv p1, iv p2, iv p3, iv p4, iv p5, iv (3 : Int32), rv b639, iv (0 : Int32), .unset, .unset] [(.int (0 : Int32)), (.ref b639)])) rfl (by rw [hml]; rfl) (Steps.refl _) (argsL := [(.int (0 : Int32))]) (rest := []) (lenOf pd_14 rfl) rfl (by show 2 * 0 + _ ≤ _; exact Nat.le_of_eq rfl) (hb hby at_73) (fun _ _ => ⟨rfl, e656, (by decide : 3 + 0 ≤ _), (by decide : 19 + 0 ≤ _)⟩)
      dsimp only [Pt.U, Pt.locs, Pt.cells, Pt.slots] at X812 l812 y812 z812 st812 hQ812
      replace l812 := l812.symm
      replace y812 : 3 = k812 := y812.symm
      replace z812 : 19 = n812 := z812.symm
      subst l812 y812 z812
      obtain ⟨rfl, M812, e812⟩ := hQ812
      have N812 := Fr.app N656 M812
      have pre864 : ∀ t, Steps p.tables e below (T812.setTop (mkF m 76 #[iv p0, iv p1, iv p2, iv p3, iv p4, iv p5, iv (3 : Int32), rv b639, iv (0 : Int32), .unset, .unset] [(.int p0)])) t → Steps p.tables e below (s₁.setTop (entryFrame m #[(.int p0), (.int p1), (.int p2), (.int p3), (.int p4), (.int p5)] maxLocals)) t := fun t kt => pre811 _ (st812.trans kt)
      have pre865 : ∀ t, Steps p.tables e below (T812.setTop (mkF m 84 #[iv p0, iv p1, iv p2, iv p3, iv p4, iv p5, iv (3 : Int32), rv b639, iv (0 : Int32), iv p0, .unset] [(.int (2 : Int32)), (.ref b639)])) t → Steps p.tables e below (s₁.setTop (entryFrame m #[(.int p0), (.int p1), (.int p2), (.int p3), (.int p4), (.int p5)] maxLocals)) t := fun t kt => by
        refine pre864 _ ?_
        show Steps p.tables e below (T812.setTop (mkF m 76 #[iv p0, iv p1, iv p2, iv p3, iv p4, iv p5, iv (3 : Int32), rv b639, iv (0 : Int32), .unset, .unset] [(.int p0)])) _
        refine XS.istore X812.here hx rfl (hb hby at_76) rfl (l' := #[iv p0, iv p1, iv p2, iv p3, iv p4, iv p5, iv (3 : Int32), rv b639, iv (0 : Int32), iv p0, .unset]) rfl ?_
        show Steps p.tables e below (T812.setTop (mkF m 78 #[iv p0, iv p1, iv p2, iv p3, iv p4, iv p5, iv (3 : Int32), rv b639, iv (0 : Int32), iv p0, .unset] [])) _
        refine XS.aload X812.here hx rfl (hb hby at_78) rfl rfl ?_
        show Steps p.tables e below (T812.setTop (mkF m 80 #[iv p0, iv p1, iv p2, iv p3, iv p4, iv p5, iv (3 : Int32), rv b639, iv (0 : Int32), iv p0, .unset] [(.ref b639)])) _
        refine XS.iload X812.here hx rfl (hb hby at_80) rfl ?_
        show Steps p.tables e below (T812.setTop (mkF m 82 #[iv p0, iv p1, iv p2, iv p3, iv p4, iv p5, iv (3 : Int32), rv b639, iv (0 : Int32), iv p0, .unset] [(.int (3 : Int32)), (.ref b639)])) _
        refine XS.iconst X812.here hx rfl (hb hby at_82) ?_
        show Steps p.tables e below (T812.setTop (mkF m 83 #[iv p0, iv p1, iv p2, iv p3, iv p4, iv p5, iv (3 : Int32), rv b639, iv (0 : Int32), iv p0, .unset] [(.int (1 : Int32)), (.int (3 : Int32)), (.ref b639)])) _
        refine XS.isub X812.here hx rfl (hb hby at_83) rfl ?_
        show  Steps p.tables e below (T812.setTop (mkF m 84 #[iv p0, iv p1, iv p2, iv p3, iv p4, iv p5, iv (3 : Int32), rv b639, iv (0 : Int32), iv p0, .unset] [(.int ((3 : Int32) - (1 : Int32))), (.ref b639)])) _
        rw [(by decide : (((3 : Int32) - (1 : Int32)) : Int32) = (2 : Int32))]
        exact kt
      obtain ⟨cq866, kq866, q866a, q866b, q866c⟩ := isOf hZ e812 J656_0
      obtain ⟨_, _, ⟨T866, L866, k866, n866⟩, -, X866, ⟨Lc866, hQ866, l866, y866, z866⟩, st866⟩ := X812.virtualBack hx (y := (⟨"org/reachwatch/IntBlocks", "get", "(I)I"⟩ : MethodName)) (z := (⟨"org/reachwatch/IntBlocks", "get", "(I)I"⟩ : MethodName)) hown (mvT hZ (W 24 rfl)) (mvT hZ (W 25 rfl)) (notFace_of_selects (args := #[]) (mvT hZ (W 27 rfl))) (mvT hZ (W 27 rfl)) (mvT hZ (W 26 rfl)) (by decide) (backOf (W := 0) (rm_get4_4 l Z a0 hw [] b639 k51_645 b51_645 b221_648 p0 p1 p2 k221_648 h656 n0 O656 F808 J656_1 J656_3 J656_4) hZ (W 28 rfl) (W 2 rfl) (by decide) (by decide)) q866a q866c (g := (mkF m 84 #[iv p0, iv p1, iv p2, iv p3, iv p4, iv p5, iv (3 : Int32), rv b639, iv (0 : Int32), iv p0, .unset] [(.int (2 : Int32)), (.ref b639)])) rfl (by rw [hml]; rfl) (Steps.refl _) (argsL := [(.int (2 : Int32))]) (rest := []) (lenOf pd_14 rfl) rfl (by show 2 * 0 + _ ≤ _; exact Nat.le_of_eq rfl) (hb hby at_84) (fun _ _ => ⟨rfl, e812, (by decide : 3 + 0 ≤ _), (by decide : 19 + 0 ≤ _)⟩)
      dsimp only [Pt.U, Pt.locs, Pt.cells, Pt.slots] at X866 l866 y866 z866 st866 hQ866
      replace l866 := l866.symm
      replace y866 : 3 = k866 := y866.symm
      replace z866 : 19 = n866 := z866.symm
      subst l866 y866 z866
      obtain ⟨rfl, M866, e866⟩ := hQ866
      have N866 := Fr.app N812 M866
      have pre918 : ∀ t, Steps p.tables e below (T866.setTop (mkF m 87 #[iv p0, iv p1, iv p2, iv p3, iv p4, iv p5, iv (3 : Int32), rv b639, iv (0 : Int32), iv p0, .unset] [(.int p2)])) t → Steps p.tables e below (s₁.setTop (entryFrame m #[(.int p0), (.int p1), (.int p2), (.int p3), (.int p4), (.int p5)] maxLocals)) t := fun t kt => pre865 _ (st866.trans kt)
      have pre919 : ∀ t, Steps p.tables e below (T866.setTop (mkF m 97 #[iv p0, iv p1, iv p2, iv p3, iv p4, iv p5, iv (3 : Int32), rv b639, iv (0 : Int32), iv p0, iv p2] [(.int p3), (.int p2), (.int p1), (.int p0), (.int (0 : Int32)), (.int p0)])) t → Steps p.tables e below (s₁.setTop (entryFrame m #[(.int p0), (.int p1), (.int p2), (.int p3), (.int p4), (.int p5)] maxLocals)) t := fun t kt => by
        refine pre918 _ ?_
        show Steps p.tables e below (T866.setTop (mkF m 87 #[iv p0, iv p1, iv p2, iv p3, iv p4, iv p5, iv (3 : Int32), rv b639, iv (0 : Int32), iv p0, .unset] [(.int p2)])) _
        refine XS.istore X866.here hx rfl (hb hby at_87) rfl (l' := #[iv p0, iv p1, iv p2, iv p3, iv p4, iv p5, iv (3 : Int32), rv b639, iv (0 : Int32), iv p0, iv p2]) rfl ?_
        show Steps p.tables e below (T866.setTop (mkF m 89 #[iv p0, iv p1, iv p2, iv p3, iv p4, iv p5, iv (3 : Int32), rv b639, iv (0 : Int32), iv p0, iv p2] [])) _
        refine XS.iload X866.here hx rfl (hb hby at_89) rfl ?_
        show Steps p.tables e below (T866.setTop (mkF m 91 #[iv p0, iv p1, iv p2, iv p3, iv p4, iv p5, iv (3 : Int32), rv b639, iv (0 : Int32), iv p0, iv p2] [(.int p0)])) _
        refine XS.iload X866.here hx rfl (hb hby at_91) rfl ?_
        show Steps p.tables e below (T866.setTop (mkF m 93 #[iv p0, iv p1, iv p2, iv p3, iv p4, iv p5, iv (3 : Int32), rv b639, iv (0 : Int32), iv p0, iv p2] [(.int (0 : Int32)), (.int p0)])) _
        refine XS.iloadN X866.here hx rfl (hb hby at_93) rfl ?_
        show Steps p.tables e below (T866.setTop (mkF m 94 #[iv p0, iv p1, iv p2, iv p3, iv p4, iv p5, iv (3 : Int32), rv b639, iv (0 : Int32), iv p0, iv p2] [(.int p0), (.int (0 : Int32)), (.int p0)])) _
        refine XS.iloadN X866.here hx rfl (hb hby at_94) rfl ?_
        show Steps p.tables e below (T866.setTop (mkF m 95 #[iv p0, iv p1, iv p2, iv p3, iv p4, iv p5, iv (3 : Int32), rv b639, iv (0 : Int32), iv p0, iv p2] [(.int p1), (.int p0), (.int (0 : Int32)), (.int p0)])) _
        refine XS.iloadN X866.here hx rfl (hb hby at_95) rfl ?_
        show Steps p.tables e below (T866.setTop (mkF m 96 #[iv p0, iv p1, iv p2, iv p3, iv p4, iv p5, iv (3 : Int32), rv b639, iv (0 : Int32), iv p0, iv p2] [(.int p2), (.int p1), (.int p0), (.int (0 : Int32)), (.int p0)])) _
        refine XS.iloadN X866.here hx rfl (hb hby at_96) rfl ?_
        exact kt
      obtain ⟨_, _, ⟨T920, L920, k920, n920⟩, -, X920, ⟨Lc920, hQ920, l920, y920, z920⟩, st920⟩ := Jvm.LawKit.callS X866 hx (y := (⟨"org/reachwatch/IntBlocksGetPinLaw", "ref", "(IIIII)I"⟩ : MethodName)) hown (mvT hZ (W 37 rfl)) (mvT hZ (W 38 rfl)) (mvT hZ (W 39 rfl)) (mvT hZ (W 40 rfl)) (by decide) (backOf (W := 1) (rm_ref7_0 l Z a0 hw [] p0 p1 p2 p3 h656 n0 O656) hZ (W 40 rfl) (W 39 rfl) (by decide) (by decide)) (g := (mkF m 97 #[iv p0, iv p1, iv p2, iv p3, iv p4, iv p5, iv (3 : Int32), rv b639, iv (0 : Int32), iv p0, iv p2] [(.int p3), (.int p2), (.int p1), (.int p0), (.int (0 : Int32)), (.int p0)])) rfl (by rw [hml]; rfl) (argsL := [(.int (0 : Int32)), (.int p0), (.int p1), (.int p2), (.int p3)]) (rest := [(.int p0)]) (lenOf pd_16 rfl) rfl (by show 2 * 0 + _ ≤ _; exact Nat.le_of_eq rfl) (hb hby at_97) (fun _ _ => ⟨rfl, e866, (by decide : 3 + 0 ≤ _), (by decide : 19 + 0 ≤ _)⟩)
      dsimp only [Pt.U, Pt.locs, Pt.cells, Pt.slots] at X920 l920 y920 z920 st920 hQ920
      replace l920 := l920.symm
      replace y920 : 3 = k920 := y920.symm
      replace z920 : 19 = n920 := z920.symm
      subst l920 y920 z920
      obtain ⟨rfl, M920, e920⟩ := hQ920
      have N920 := Fr.app N866 M920
      have pre921 : ∀ t, Steps p.tables e below (T920.setTop (mkF m 100 #[iv p0, iv p1, iv p2, iv p3, iv p4, iv p5, iv (3 : Int32), rv b639, iv (0 : Int32), iv p0, iv p2] [(.int p0), (.int p0)])) t → Steps p.tables e below (s₁.setTop (entryFrame m #[(.int p0), (.int p1), (.int p2), (.int p3), (.int p4), (.int p5)] maxLocals)) t := fun t kt => pre919 _ (st920 _ kt)
      have pre922 : ∀ t, Steps p.tables e below (T920.setTop (mkF m 113 #[iv p0, iv p1, iv p2, iv p3, iv p4, iv p5, iv (3 : Int32), rv b639, iv (0 : Int32), iv p0, iv p2] [(.int p3), (.int p2), (.int p1), (.int p0), (.int (2 : Int32)), (.int p2)])) t → Steps p.tables e below (s₁.setTop (entryFrame m #[(.int p0), (.int p1), (.int p2), (.int p3), (.int p4), (.int p5)] maxLocals)) t := fun t kt => by
        refine pre921 _ ?_
        show Steps p.tables e below (T920.setTop (mkF m 100 #[iv p0, iv p1, iv p2, iv p3, iv p4, iv p5, iv (3 : Int32), rv b639, iv (0 : Int32), iv p0, iv p2] [(.int p0), (.int p0)])) _
        refine XS.icmpNo X920.here hx rfl (hb hby at_100) rfl (XT.ii_ne_f rfl) ?_
        show Steps p.tables e below (T920.setTop (mkF m 103 #[iv p0, iv p1, iv p2, iv p3, iv p4, iv p5, iv (3 : Int32), rv b639, iv (0 : Int32), iv p0, iv p2] [])) _
        refine XS.iload X920.here hx rfl (hb hby at_103) rfl ?_
        show Steps p.tables e below (T920.setTop (mkF m 105 #[iv p0, iv p1, iv p2, iv p3, iv p4, iv p5, iv (3 : Int32), rv b639, iv (0 : Int32), iv p0, iv p2] [(.int p2)])) _
        refine XS.iload X920.here hx rfl (hb hby at_105) rfl ?_
        show Steps p.tables e below (T920.setTop (mkF m 107 #[iv p0, iv p1, iv p2, iv p3, iv p4, iv p5, iv (3 : Int32), rv b639, iv (0 : Int32), iv p0, iv p2] [(.int (3 : Int32)), (.int p2)])) _
        refine XS.iconst X920.here hx rfl (hb hby at_107) ?_
        show Steps p.tables e below (T920.setTop (mkF m 108 #[iv p0, iv p1, iv p2, iv p3, iv p4, iv p5, iv (3 : Int32), rv b639, iv (0 : Int32), iv p0, iv p2] [(.int (1 : Int32)), (.int (3 : Int32)), (.int p2)])) _
        refine XS.isub X920.here hx rfl (hb hby at_108) rfl ?_
        show  Steps p.tables e below (T920.setTop (mkF m 109 #[iv p0, iv p1, iv p2, iv p3, iv p4, iv p5, iv (3 : Int32), rv b639, iv (0 : Int32), iv p0, iv p2] [(.int ((3 : Int32) - (1 : Int32))), (.int p2)])) _
        rw [(by decide : (((3 : Int32) - (1 : Int32)) : Int32) = (2 : Int32))]
        show Steps p.tables e below (T920.setTop (mkF m 109 #[iv p0, iv p1, iv p2, iv p3, iv p4, iv p5, iv (3 : Int32), rv b639, iv (0 : Int32), iv p0, iv p2] [(.int (2 : Int32)), (.int p2)])) _
        refine XS.iloadN X920.here hx rfl (hb hby at_109) rfl ?_
        show Steps p.tables e below (T920.setTop (mkF m 110 #[iv p0, iv p1, iv p2, iv p3, iv p4, iv p5, iv (3 : Int32), rv b639, iv (0 : Int32), iv p0, iv p2] [(.int p0), (.int (2 : Int32)), (.int p2)])) _
        refine XS.iloadN X920.here hx rfl (hb hby at_110) rfl ?_
        show Steps p.tables e below (T920.setTop (mkF m 111 #[iv p0, iv p1, iv p2, iv p3, iv p4, iv p5, iv (3 : Int32), rv b639, iv (0 : Int32), iv p0, iv p2] [(.int p1), (.int p0), (.int (2 : Int32)), (.int p2)])) _
        refine XS.iloadN X920.here hx rfl (hb hby at_111) rfl ?_
        show Steps p.tables e below (T920.setTop (mkF m 112 #[iv p0, iv p1, iv p2, iv p3, iv p4, iv p5, iv (3 : Int32), rv b639, iv (0 : Int32), iv p0, iv p2] [(.int p2), (.int p1), (.int p0), (.int (2 : Int32)), (.int p2)])) _
        refine XS.iloadN X920.here hx rfl (hb hby at_112) rfl ?_
        exact kt
      obtain ⟨_, _, ⟨T923, L923, k923, n923⟩, -, X923, ⟨Lc923, hQ923, l923, y923, z923⟩, st923⟩ := Jvm.LawKit.callS X920 hx (y := (⟨"org/reachwatch/IntBlocksGetPinLaw", "ref", "(IIIII)I"⟩ : MethodName)) hown (mvT hZ (W 37 rfl)) (mvT hZ (W 38 rfl)) (mvT hZ (W 39 rfl)) (mvT hZ (W 40 rfl)) (by decide) (backOf (W := 1) (rm_ref7_2 l Z a0 hw [] p0 p1 p2 p3 h656 n0 O656) hZ (W 40 rfl) (W 39 rfl) (by decide) (by decide)) (g := (mkF m 113 #[iv p0, iv p1, iv p2, iv p3, iv p4, iv p5, iv (3 : Int32), rv b639, iv (0 : Int32), iv p0, iv p2] [(.int p3), (.int p2), (.int p1), (.int p0), (.int (2 : Int32)), (.int p2)])) rfl (by rw [hml]; rfl) (argsL := [(.int (2 : Int32)), (.int p0), (.int p1), (.int p2), (.int p3)]) (rest := [(.int p2)]) (lenOf pd_16 rfl) rfl (by show 2 * 0 + _ ≤ _; exact Nat.le_of_eq rfl) (hb hby at_113) (fun _ _ => ⟨rfl, e920, (by decide : 3 + 0 ≤ _), (by decide : 19 + 0 ≤ _)⟩)
      dsimp only [Pt.U, Pt.locs, Pt.cells, Pt.slots] at X923 l923 y923 z923 st923 hQ923
      replace l923 := l923.symm
      replace y923 : 3 = k923 := y923.symm
      replace z923 : 19 = n923 := z923.symm
      subst l923 y923 z923
      obtain ⟨rfl, M923, e923⟩ := hQ923
      have N923 := Fr.app N920 M923
      have pre927 : ∀ t, Steps p.tables e below (T923.setTop (mkF m 116 #[iv p0, iv p1, iv p2, iv p3, iv p4, iv p5, iv (3 : Int32), rv b639, iv (0 : Int32), iv p0, iv p2] [(.int p2), (.int p2)])) t → Steps p.tables e below (s₁.setTop (entryFrame m #[(.int p0), (.int p1), (.int p2), (.int p3), (.int p4), (.int p5)] maxLocals)) t := fun t kt => pre922 _ (st923 _ kt)
      have pre928 : ∀ t, Steps p.tables e below (T923.setTop (mkF m 124 #[iv p0, iv p1, iv p2, iv p3, iv p4, iv p5, iv (3 : Int32), rv b639, iv (0 : Int32), iv p0, iv p2] [(.int (1 : Int32))])) t → Steps p.tables e below (s₁.setTop (entryFrame m #[(.int p0), (.int p1), (.int p2), (.int p3), (.int p4), (.int p5)] maxLocals)) t := fun t kt => by
        refine pre927 _ ?_
        show Steps p.tables e below (T923.setTop (mkF m 116 #[iv p0, iv p1, iv p2, iv p3, iv p4, iv p5, iv (3 : Int32), rv b639, iv (0 : Int32), iv p0, iv p2] [(.int p2), (.int p2)])) _
        refine XS.icmpNo X923.here hx rfl (hb hby at_116) rfl (XT.ii_ne_f rfl) ?_
        show Steps p.tables e below (T923.setTop (mkF m 119 #[iv p0, iv p1, iv p2, iv p3, iv p4, iv p5, iv (3 : Int32), rv b639, iv (0 : Int32), iv p0, iv p2] [])) _
        refine XS.iconst X923.here hx rfl (hb hby at_119) ?_
        show Steps p.tables e below (T923.setTop (mkF m 120 #[iv p0, iv p1, iv p2, iv p3, iv p4, iv p5, iv (3 : Int32), rv b639, iv (0 : Int32), iv p0, iv p2] [(.int (1 : Int32))])) _
        refine XS.goto X923.here hx rfl (pc0 := 120) (pc' := 124) rfl (hb hby at_120) (by decide) (by decide) ?_
        exact kt
      obtain ⟨fs, hr, hrun, hended, hW, hsame⟩ := X923.leave (v := some (.int (1 : Int32))) (fun h => by rw [Bd.returns] at h; cases h)
      refine ⟨_, _, pre928 _ (retN X923 hx (t := .boolean) Bd.returns (by simp) (hb hby at_124) hr), hrun, hended, _, _, rfl, ?_, ⟨_, rfl⟩, hW, hsame.mono (by decide) (by decide)⟩
      show Q_law Z p0 p1 p2 p3 p4 p5 h0 n0 _ T923.heap _
      rw [e923]
      exact ⟨rfl, N923⟩
    · rw [hv810] at pre809
      have pre929 : ∀ t, Steps p.tables e below (T656.setTop (mkF m 73 #[iv p0, iv p1, iv p2, iv p3, iv p4, iv p5, iv (3 : Int32), rv b639, iv (1 : Int32), .unset, .unset] [(.int (1 : Int32)), (.ref b639)])) t → Steps p.tables e below (s₁.setTop (entryFrame m #[(.int p0), (.int p1), (.int p2), (.int p3), (.int p4), (.int p5)] maxLocals)) t := fun t kt => by
        refine pre809 _ ?_
        show Steps p.tables e below (T656.setTop (mkF m 67 #[iv p0, iv p1, iv p2, iv p3, iv p4, iv p5, iv (3 : Int32), rv b639, .unset, .unset, .unset] [(.int (1 : Int32))])) _
        refine XS.istore X656.here hx rfl (hb hby at_67) rfl (l' := #[iv p0, iv p1, iv p2, iv p3, iv p4, iv p5, iv (3 : Int32), rv b639, iv (1 : Int32), .unset, .unset]) rfl ?_
        show Steps p.tables e below (T656.setTop (mkF m 69 #[iv p0, iv p1, iv p2, iv p3, iv p4, iv p5, iv (3 : Int32), rv b639, iv (1 : Int32), .unset, .unset] [])) _
        refine XS.aload X656.here hx rfl (hb hby at_69) rfl rfl ?_
        show Steps p.tables e below (T656.setTop (mkF m 71 #[iv p0, iv p1, iv p2, iv p3, iv p4, iv p5, iv (3 : Int32), rv b639, iv (1 : Int32), .unset, .unset] [(.ref b639)])) _
        refine XS.iload X656.here hx rfl (hb hby at_71) rfl ?_
        exact kt
      obtain ⟨cq930, kq930, q930a, q930b, q930c⟩ := isOf hZ e656 J656_0
      obtain ⟨_, _, ⟨T930, L930, k930, n930⟩, -, X930, ⟨Lc930, hQ930, l930, y930, z930⟩, st930⟩ := X656.virtualBack hx (y := (⟨"org/reachwatch/IntBlocks", "get", "(I)I"⟩ : MethodName)) (z := (⟨"org/reachwatch/IntBlocks", "get", "(I)I"⟩ : MethodName)) hown (mvT hZ (W 24 rfl)) (mvT hZ (W 25 rfl)) (notFace_of_selects (args := #[]) (mvT hZ (W 27 rfl))) (mvT hZ (W 27 rfl)) (mvT hZ (W 26 rfl)) (by decide) (backOf (W := 0) (rm_get4_5 l Z a0 hw [] b639 k51_645 b51_645 b221_648 p0 p1 p2 k221_648 h656 n0 O656 F808 J656_1 J656_3 J656_4) hZ (W 28 rfl) (W 2 rfl) (by decide) (by decide)) q930a q930c (g := (mkF m 73 #[iv p0, iv p1, iv p2, iv p3, iv p4, iv p5, iv (3 : Int32), rv b639, iv (1 : Int32), .unset, .unset] [(.int (1 : Int32)), (.ref b639)])) rfl (by rw [hml]; rfl) (Steps.refl _) (argsL := [(.int (1 : Int32))]) (rest := []) (lenOf pd_14 rfl) rfl (by show 2 * 0 + _ ≤ _; exact Nat.le_of_eq rfl) (hb hby at_73) (fun _ _ => ⟨rfl, e656, (by decide : 3 + 0 ≤ _), (by decide : 19 + 0 ≤ _)⟩)
      dsimp only [Pt.U, Pt.locs, Pt.cells, Pt.slots] at X930 l930 y930 z930 st930 hQ930
      replace l930 := l930.symm
      replace y930 : 3 = k930 := y930.symm
      replace z930 : 19 = n930 := z930.symm
      subst l930 y930 z930
      obtain ⟨rfl, M930, e930⟩ := hQ930
      have N930 := Fr.app N656 M930
      have pre982 : ∀ t, Steps p.tables e below (T930.setTop (mkF m 76 #[iv p0, iv p1, iv p2, iv p3, iv p4, iv p5, iv (3 : Int32), rv b639, iv (1 : Int32), .unset, .unset] [(.int p1)])) t → Steps p.tables e below (s₁.setTop (entryFrame m #[(.int p0), (.int p1), (.int p2), (.int p3), (.int p4), (.int p5)] maxLocals)) t := fun t kt => pre929 _ (st930.trans kt)
      have pre983 : ∀ t, Steps p.tables e below (T930.setTop (mkF m 84 #[iv p0, iv p1, iv p2, iv p3, iv p4, iv p5, iv (3 : Int32), rv b639, iv (1 : Int32), iv p1, .unset] [(.int (2 : Int32)), (.ref b639)])) t → Steps p.tables e below (s₁.setTop (entryFrame m #[(.int p0), (.int p1), (.int p2), (.int p3), (.int p4), (.int p5)] maxLocals)) t := fun t kt => by
        refine pre982 _ ?_
        show Steps p.tables e below (T930.setTop (mkF m 76 #[iv p0, iv p1, iv p2, iv p3, iv p4, iv p5, iv (3 : Int32), rv b639, iv (1 : Int32), .unset, .unset] [(.int p1)])) _
        refine XS.istore X930.here hx rfl (hb hby at_76) rfl (l' := #[iv p0, iv p1, iv p2, iv p3, iv p4, iv p5, iv (3 : Int32), rv b639, iv (1 : Int32), iv p1, .unset]) rfl ?_
        show Steps p.tables e below (T930.setTop (mkF m 78 #[iv p0, iv p1, iv p2, iv p3, iv p4, iv p5, iv (3 : Int32), rv b639, iv (1 : Int32), iv p1, .unset] [])) _
        refine XS.aload X930.here hx rfl (hb hby at_78) rfl rfl ?_
        show Steps p.tables e below (T930.setTop (mkF m 80 #[iv p0, iv p1, iv p2, iv p3, iv p4, iv p5, iv (3 : Int32), rv b639, iv (1 : Int32), iv p1, .unset] [(.ref b639)])) _
        refine XS.iload X930.here hx rfl (hb hby at_80) rfl ?_
        show Steps p.tables e below (T930.setTop (mkF m 82 #[iv p0, iv p1, iv p2, iv p3, iv p4, iv p5, iv (3 : Int32), rv b639, iv (1 : Int32), iv p1, .unset] [(.int (3 : Int32)), (.ref b639)])) _
        refine XS.iconst X930.here hx rfl (hb hby at_82) ?_
        show Steps p.tables e below (T930.setTop (mkF m 83 #[iv p0, iv p1, iv p2, iv p3, iv p4, iv p5, iv (3 : Int32), rv b639, iv (1 : Int32), iv p1, .unset] [(.int (1 : Int32)), (.int (3 : Int32)), (.ref b639)])) _
        refine XS.isub X930.here hx rfl (hb hby at_83) rfl ?_
        show  Steps p.tables e below (T930.setTop (mkF m 84 #[iv p0, iv p1, iv p2, iv p3, iv p4, iv p5, iv (3 : Int32), rv b639, iv (1 : Int32), iv p1, .unset] [(.int ((3 : Int32) - (1 : Int32))), (.ref b639)])) _
        rw [(by decide : (((3 : Int32) - (1 : Int32)) : Int32) = (2 : Int32))]
        exact kt
      obtain ⟨cq984, kq984, q984a, q984b, q984c⟩ := isOf hZ e930 J656_0
      obtain ⟨_, _, ⟨T984, L984, k984, n984⟩, -, X984, ⟨Lc984, hQ984, l984, y984, z984⟩, st984⟩ := X930.virtualBack hx (y := (⟨"org/reachwatch/IntBlocks", "get", "(I)I"⟩ : MethodName)) (z := (⟨"org/reachwatch/IntBlocks", "get", "(I)I"⟩ : MethodName)) hown (mvT hZ (W 24 rfl)) (mvT hZ (W 25 rfl)) (notFace_of_selects (args := #[]) (mvT hZ (W 27 rfl))) (mvT hZ (W 27 rfl)) (mvT hZ (W 26 rfl)) (by decide) (backOf (W := 0) (rm_get4_4 l Z a0 hw [] b639 k51_645 b51_645 b221_648 p0 p1 p2 k221_648 h656 n0 O656 F808 J656_1 J656_3 J656_4) hZ (W 28 rfl) (W 2 rfl) (by decide) (by decide)) q984a q984c (g := (mkF m 84 #[iv p0, iv p1, iv p2, iv p3, iv p4, iv p5, iv (3 : Int32), rv b639, iv (1 : Int32), iv p1, .unset] [(.int (2 : Int32)), (.ref b639)])) rfl (by rw [hml]; rfl) (Steps.refl _) (argsL := [(.int (2 : Int32))]) (rest := []) (lenOf pd_14 rfl) rfl (by show 2 * 0 + _ ≤ _; exact Nat.le_of_eq rfl) (hb hby at_84) (fun _ _ => ⟨rfl, e930, (by decide : 3 + 0 ≤ _), (by decide : 19 + 0 ≤ _)⟩)
      dsimp only [Pt.U, Pt.locs, Pt.cells, Pt.slots] at X984 l984 y984 z984 st984 hQ984
      replace l984 := l984.symm
      replace y984 : 3 = k984 := y984.symm
      replace z984 : 19 = n984 := z984.symm
      subst l984 y984 z984
      obtain ⟨rfl, M984, e984⟩ := hQ984
      have N984 := Fr.app N930 M984
      have pre985 : ∀ t, Steps p.tables e below (T984.setTop (mkF m 87 #[iv p0, iv p1, iv p2, iv p3, iv p4, iv p5, iv (3 : Int32), rv b639, iv (1 : Int32), iv p1, .unset] [(.int p2)])) t → Steps p.tables e below (s₁.setTop (entryFrame m #[(.int p0), (.int p1), (.int p2), (.int p3), (.int p4), (.int p5)] maxLocals)) t := fun t kt => pre983 _ (st984.trans kt)
      have pre986 : ∀ t, Steps p.tables e below (T984.setTop (mkF m 97 #[iv p0, iv p1, iv p2, iv p3, iv p4, iv p5, iv (3 : Int32), rv b639, iv (1 : Int32), iv p1, iv p2] [(.int p3), (.int p2), (.int p1), (.int p0), (.int (1 : Int32)), (.int p1)])) t → Steps p.tables e below (s₁.setTop (entryFrame m #[(.int p0), (.int p1), (.int p2), (.int p3), (.int p4), (.int p5)] maxLocals)) t := fun t kt => by
        refine pre985 _ ?_
        show Steps p.tables e below (T984.setTop (mkF m 87 #[iv p0, iv p1, iv p2, iv p3, iv p4, iv p5, iv (3 : Int32), rv b639, iv (1 : Int32), iv p1, .unset] [(.int p2)])) _
        refine XS.istore X984.here hx rfl (hb hby at_87) rfl (l' := #[iv p0, iv p1, iv p2, iv p3, iv p4, iv p5, iv (3 : Int32), rv b639, iv (1 : Int32), iv p1, iv p2]) rfl ?_
        show Steps p.tables e below (T984.setTop (mkF m 89 #[iv p0, iv p1, iv p2, iv p3, iv p4, iv p5, iv (3 : Int32), rv b639, iv (1 : Int32), iv p1, iv p2] [])) _
        refine XS.iload X984.here hx rfl (hb hby at_89) rfl ?_
        show Steps p.tables e below (T984.setTop (mkF m 91 #[iv p0, iv p1, iv p2, iv p3, iv p4, iv p5, iv (3 : Int32), rv b639, iv (1 : Int32), iv p1, iv p2] [(.int p1)])) _
        refine XS.iload X984.here hx rfl (hb hby at_91) rfl ?_
        show Steps p.tables e below (T984.setTop (mkF m 93 #[iv p0, iv p1, iv p2, iv p3, iv p4, iv p5, iv (3 : Int32), rv b639, iv (1 : Int32), iv p1, iv p2] [(.int (1 : Int32)), (.int p1)])) _
        refine XS.iloadN X984.here hx rfl (hb hby at_93) rfl ?_
        show Steps p.tables e below (T984.setTop (mkF m 94 #[iv p0, iv p1, iv p2, iv p3, iv p4, iv p5, iv (3 : Int32), rv b639, iv (1 : Int32), iv p1, iv p2] [(.int p0), (.int (1 : Int32)), (.int p1)])) _
        refine XS.iloadN X984.here hx rfl (hb hby at_94) rfl ?_
        show Steps p.tables e below (T984.setTop (mkF m 95 #[iv p0, iv p1, iv p2, iv p3, iv p4, iv p5, iv (3 : Int32), rv b639, iv (1 : Int32), iv p1, iv p2] [(.int p1), (.int p0), (.int (1 : Int32)), (.int p1)])) _
        refine XS.iloadN X984.here hx rfl (hb hby at_95) rfl ?_
        show Steps p.tables e below (T984.setTop (mkF m 96 #[iv p0, iv p1, iv p2, iv p3, iv p4, iv p5, iv (3 : Int32), rv b639, iv (1 : Int32), iv p1, iv p2] [(.int p2), (.int p1), (.int p0), (.int (1 : Int32)), (.int p1)])) _
        refine XS.iloadN X984.here hx rfl (hb hby at_96) rfl ?_
        exact kt
      obtain ⟨_, _, ⟨T987, L987, k987, n987⟩, -, X987, ⟨Lc987, hQ987, l987, y987, z987⟩, st987⟩ := Jvm.LawKit.callS X984 hx (y := (⟨"org/reachwatch/IntBlocksGetPinLaw", "ref", "(IIIII)I"⟩ : MethodName)) hown (mvT hZ (W 37 rfl)) (mvT hZ (W 38 rfl)) (mvT hZ (W 39 rfl)) (mvT hZ (W 40 rfl)) (by decide) (backOf (W := 1) (rm_ref7_1 l Z a0 hw [] p0 p1 p2 p3 h656 n0 O656) hZ (W 40 rfl) (W 39 rfl) (by decide) (by decide)) (g := (mkF m 97 #[iv p0, iv p1, iv p2, iv p3, iv p4, iv p5, iv (3 : Int32), rv b639, iv (1 : Int32), iv p1, iv p2] [(.int p3), (.int p2), (.int p1), (.int p0), (.int (1 : Int32)), (.int p1)])) rfl (by rw [hml]; rfl) (argsL := [(.int (1 : Int32)), (.int p0), (.int p1), (.int p2), (.int p3)]) (rest := [(.int p1)]) (lenOf pd_16 rfl) rfl (by show 2 * 0 + _ ≤ _; exact Nat.le_of_eq rfl) (hb hby at_97) (fun _ _ => ⟨rfl, e984, (by decide : 3 + 0 ≤ _), (by decide : 19 + 0 ≤ _)⟩)
      dsimp only [Pt.U, Pt.locs, Pt.cells, Pt.slots] at X987 l987 y987 z987 st987 hQ987
      replace l987 := l987.symm
      replace y987 : 3 = k987 := y987.symm
      replace z987 : 19 = n987 := z987.symm
      subst l987 y987 z987
      obtain ⟨rfl, M987, e987⟩ := hQ987
      have N987 := Fr.app N984 M987
      have pre988 : ∀ t, Steps p.tables e below (T987.setTop (mkF m 100 #[iv p0, iv p1, iv p2, iv p3, iv p4, iv p5, iv (3 : Int32), rv b639, iv (1 : Int32), iv p1, iv p2] [(.int p1), (.int p1)])) t → Steps p.tables e below (s₁.setTop (entryFrame m #[(.int p0), (.int p1), (.int p2), (.int p3), (.int p4), (.int p5)] maxLocals)) t := fun t kt => pre986 _ (st987 _ kt)
      have pre989 : ∀ t, Steps p.tables e below (T987.setTop (mkF m 113 #[iv p0, iv p1, iv p2, iv p3, iv p4, iv p5, iv (3 : Int32), rv b639, iv (1 : Int32), iv p1, iv p2] [(.int p3), (.int p2), (.int p1), (.int p0), (.int (2 : Int32)), (.int p2)])) t → Steps p.tables e below (s₁.setTop (entryFrame m #[(.int p0), (.int p1), (.int p2), (.int p3), (.int p4), (.int p5)] maxLocals)) t := fun t kt => by
        refine pre988 _ ?_
        show Steps p.tables e below (T987.setTop (mkF m 100 #[iv p0, iv p1, iv p2, iv p3, iv p4, iv p5, iv (3 : Int32), rv b639, iv (1 : Int32), iv p1, iv p2] [(.int p1), (.int p1)])) _
        refine XS.icmpNo X987.here hx rfl (hb hby at_100) rfl (XT.ii_ne_f rfl) ?_
        show Steps p.tables e below (T987.setTop (mkF m 103 #[iv p0, iv p1, iv p2, iv p3, iv p4, iv p5, iv (3 : Int32), rv b639, iv (1 : Int32), iv p1, iv p2] [])) _
        refine XS.iload X987.here hx rfl (hb hby at_103) rfl ?_
        show Steps p.tables e below (T987.setTop (mkF m 105 #[iv p0, iv p1, iv p2, iv p3, iv p4, iv p5, iv (3 : Int32), rv b639, iv (1 : Int32), iv p1, iv p2] [(.int p2)])) _
        refine XS.iload X987.here hx rfl (hb hby at_105) rfl ?_
        show Steps p.tables e below (T987.setTop (mkF m 107 #[iv p0, iv p1, iv p2, iv p3, iv p4, iv p5, iv (3 : Int32), rv b639, iv (1 : Int32), iv p1, iv p2] [(.int (3 : Int32)), (.int p2)])) _
        refine XS.iconst X987.here hx rfl (hb hby at_107) ?_
        show Steps p.tables e below (T987.setTop (mkF m 108 #[iv p0, iv p1, iv p2, iv p3, iv p4, iv p5, iv (3 : Int32), rv b639, iv (1 : Int32), iv p1, iv p2] [(.int (1 : Int32)), (.int (3 : Int32)), (.int p2)])) _
        refine XS.isub X987.here hx rfl (hb hby at_108) rfl ?_
        show  Steps p.tables e below (T987.setTop (mkF m 109 #[iv p0, iv p1, iv p2, iv p3, iv p4, iv p5, iv (3 : Int32), rv b639, iv (1 : Int32), iv p1, iv p2] [(.int ((3 : Int32) - (1 : Int32))), (.int p2)])) _
        rw [(by decide : (((3 : Int32) - (1 : Int32)) : Int32) = (2 : Int32))]
        show Steps p.tables e below (T987.setTop (mkF m 109 #[iv p0, iv p1, iv p2, iv p3, iv p4, iv p5, iv (3 : Int32), rv b639, iv (1 : Int32), iv p1, iv p2] [(.int (2 : Int32)), (.int p2)])) _
        refine XS.iloadN X987.here hx rfl (hb hby at_109) rfl ?_
        show Steps p.tables e below (T987.setTop (mkF m 110 #[iv p0, iv p1, iv p2, iv p3, iv p4, iv p5, iv (3 : Int32), rv b639, iv (1 : Int32), iv p1, iv p2] [(.int p0), (.int (2 : Int32)), (.int p2)])) _
        refine XS.iloadN X987.here hx rfl (hb hby at_110) rfl ?_
        show Steps p.tables e below (T987.setTop (mkF m 111 #[iv p0, iv p1, iv p2, iv p3, iv p4, iv p5, iv (3 : Int32), rv b639, iv (1 : Int32), iv p1, iv p2] [(.int p1), (.int p0), (.int (2 : Int32)), (.int p2)])) _
        refine XS.iloadN X987.here hx rfl (hb hby at_111) rfl ?_
        show Steps p.tables e below (T987.setTop (mkF m 112 #[iv p0, iv p1, iv p2, iv p3, iv p4, iv p5, iv (3 : Int32), rv b639, iv (1 : Int32), iv p1, iv p2] [(.int p2), (.int p1), (.int p0), (.int (2 : Int32)), (.int p2)])) _
        refine XS.iloadN X987.here hx rfl (hb hby at_112) rfl ?_
        exact kt
      obtain ⟨_, _, ⟨T990, L990, k990, n990⟩, -, X990, ⟨Lc990, hQ990, l990, y990, z990⟩, st990⟩ := Jvm.LawKit.callS X987 hx (y := (⟨"org/reachwatch/IntBlocksGetPinLaw", "ref", "(IIIII)I"⟩ : MethodName)) hown (mvT hZ (W 37 rfl)) (mvT hZ (W 38 rfl)) (mvT hZ (W 39 rfl)) (mvT hZ (W 40 rfl)) (by decide) (backOf (W := 1) (rm_ref7_2 l Z a0 hw [] p0 p1 p2 p3 h656 n0 O656) hZ (W 40 rfl) (W 39 rfl) (by decide) (by decide)) (g := (mkF m 113 #[iv p0, iv p1, iv p2, iv p3, iv p4, iv p5, iv (3 : Int32), rv b639, iv (1 : Int32), iv p1, iv p2] [(.int p3), (.int p2), (.int p1), (.int p0), (.int (2 : Int32)), (.int p2)])) rfl (by rw [hml]; rfl) (argsL := [(.int (2 : Int32)), (.int p0), (.int p1), (.int p2), (.int p3)]) (rest := [(.int p2)]) (lenOf pd_16 rfl) rfl (by show 2 * 0 + _ ≤ _; exact Nat.le_of_eq rfl) (hb hby at_113) (fun _ _ => ⟨rfl, e987, (by decide : 3 + 0 ≤ _), (by decide : 19 + 0 ≤ _)⟩)
      dsimp only [Pt.U, Pt.locs, Pt.cells, Pt.slots] at X990 l990 y990 z990 st990 hQ990
      replace l990 := l990.symm
      replace y990 : 3 = k990 := y990.symm
      replace z990 : 19 = n990 := z990.symm
      subst l990 y990 z990
      obtain ⟨rfl, M990, e990⟩ := hQ990
      have N990 := Fr.app N987 M990
      have pre991 : ∀ t, Steps p.tables e below (T990.setTop (mkF m 116 #[iv p0, iv p1, iv p2, iv p3, iv p4, iv p5, iv (3 : Int32), rv b639, iv (1 : Int32), iv p1, iv p2] [(.int p2), (.int p2)])) t → Steps p.tables e below (s₁.setTop (entryFrame m #[(.int p0), (.int p1), (.int p2), (.int p3), (.int p4), (.int p5)] maxLocals)) t := fun t kt => pre989 _ (st990 _ kt)
      have pre992 : ∀ t, Steps p.tables e below (T990.setTop (mkF m 124 #[iv p0, iv p1, iv p2, iv p3, iv p4, iv p5, iv (3 : Int32), rv b639, iv (1 : Int32), iv p1, iv p2] [(.int (1 : Int32))])) t → Steps p.tables e below (s₁.setTop (entryFrame m #[(.int p0), (.int p1), (.int p2), (.int p3), (.int p4), (.int p5)] maxLocals)) t := fun t kt => by
        refine pre991 _ ?_
        show Steps p.tables e below (T990.setTop (mkF m 116 #[iv p0, iv p1, iv p2, iv p3, iv p4, iv p5, iv (3 : Int32), rv b639, iv (1 : Int32), iv p1, iv p2] [(.int p2), (.int p2)])) _
        refine XS.icmpNo X990.here hx rfl (hb hby at_116) rfl (XT.ii_ne_f rfl) ?_
        show Steps p.tables e below (T990.setTop (mkF m 119 #[iv p0, iv p1, iv p2, iv p3, iv p4, iv p5, iv (3 : Int32), rv b639, iv (1 : Int32), iv p1, iv p2] [])) _
        refine XS.iconst X990.here hx rfl (hb hby at_119) ?_
        show Steps p.tables e below (T990.setTop (mkF m 120 #[iv p0, iv p1, iv p2, iv p3, iv p4, iv p5, iv (3 : Int32), rv b639, iv (1 : Int32), iv p1, iv p2] [(.int (1 : Int32))])) _
        refine XS.goto X990.here hx rfl (pc0 := 120) (pc' := 124) rfl (hb hby at_120) (by decide) (by decide) ?_
        exact kt
      obtain ⟨fs, hr, hrun, hended, hW, hsame⟩ := X990.leave (v := some (.int (1 : Int32))) (fun h => by rw [Bd.returns] at h; cases h)
      refine ⟨_, _, pre992 _ (retN X990 hx (t := .boolean) Bd.returns (by simp) (hb hby at_124) hr), hrun, hended, _, _, rfl, ?_, ⟨_, rfl⟩, hW, hsame.mono (by decide) (by decide)⟩
      show Q_law Z p0 p1 p2 p3 p4 p5 h0 n0 _ T990.heap _
      rw [e990]
      exact ⟨rfl, N990⟩
    · rw [hv810] at pre809
      have pre993 : ∀ t, Steps p.tables e below (T656.setTop (mkF m 73 #[iv p0, iv p1, iv p2, iv p3, iv p4, iv p5, iv (3 : Int32), rv b639, iv (2 : Int32), .unset, .unset] [(.int (2 : Int32)), (.ref b639)])) t → Steps p.tables e below (s₁.setTop (entryFrame m #[(.int p0), (.int p1), (.int p2), (.int p3), (.int p4), (.int p5)] maxLocals)) t := fun t kt => by
        refine pre809 _ ?_
        show Steps p.tables e below (T656.setTop (mkF m 67 #[iv p0, iv p1, iv p2, iv p3, iv p4, iv p5, iv (3 : Int32), rv b639, .unset, .unset, .unset] [(.int (2 : Int32))])) _
        refine XS.istore X656.here hx rfl (hb hby at_67) rfl (l' := #[iv p0, iv p1, iv p2, iv p3, iv p4, iv p5, iv (3 : Int32), rv b639, iv (2 : Int32), .unset, .unset]) rfl ?_
        show Steps p.tables e below (T656.setTop (mkF m 69 #[iv p0, iv p1, iv p2, iv p3, iv p4, iv p5, iv (3 : Int32), rv b639, iv (2 : Int32), .unset, .unset] [])) _
        refine XS.aload X656.here hx rfl (hb hby at_69) rfl rfl ?_
        show Steps p.tables e below (T656.setTop (mkF m 71 #[iv p0, iv p1, iv p2, iv p3, iv p4, iv p5, iv (3 : Int32), rv b639, iv (2 : Int32), .unset, .unset] [(.ref b639)])) _
        refine XS.iload X656.here hx rfl (hb hby at_71) rfl ?_
        exact kt
      obtain ⟨cq994, kq994, q994a, q994b, q994c⟩ := isOf hZ e656 J656_0
      obtain ⟨_, _, ⟨T994, L994, k994, n994⟩, -, X994, ⟨Lc994, hQ994, l994, y994, z994⟩, st994⟩ := X656.virtualBack hx (y := (⟨"org/reachwatch/IntBlocks", "get", "(I)I"⟩ : MethodName)) (z := (⟨"org/reachwatch/IntBlocks", "get", "(I)I"⟩ : MethodName)) hown (mvT hZ (W 24 rfl)) (mvT hZ (W 25 rfl)) (notFace_of_selects (args := #[]) (mvT hZ (W 27 rfl))) (mvT hZ (W 27 rfl)) (mvT hZ (W 26 rfl)) (by decide) (backOf (W := 0) (rm_get4_4 l Z a0 hw [] b639 k51_645 b51_645 b221_648 p0 p1 p2 k221_648 h656 n0 O656 F808 J656_1 J656_3 J656_4) hZ (W 28 rfl) (W 2 rfl) (by decide) (by decide)) q994a q994c (g := (mkF m 73 #[iv p0, iv p1, iv p2, iv p3, iv p4, iv p5, iv (3 : Int32), rv b639, iv (2 : Int32), .unset, .unset] [(.int (2 : Int32)), (.ref b639)])) rfl (by rw [hml]; rfl) (Steps.refl _) (argsL := [(.int (2 : Int32))]) (rest := []) (lenOf pd_14 rfl) rfl (by show 2 * 0 + _ ≤ _; exact Nat.le_of_eq rfl) (hb hby at_73) (fun _ _ => ⟨rfl, e656, (by decide : 3 + 0 ≤ _), (by decide : 19 + 0 ≤ _)⟩)
      dsimp only [Pt.U, Pt.locs, Pt.cells, Pt.slots] at X994 l994 y994 z994 st994 hQ994
      replace l994 := l994.symm
      replace y994 : 3 = k994 := y994.symm
      replace z994 : 19 = n994 := z994.symm
      subst l994 y994 z994
      obtain ⟨rfl, M994, e994⟩ := hQ994
      have N994 := Fr.app N656 M994
      have pre995 : ∀ t, Steps p.tables e below (T994.setTop (mkF m 76 #[iv p0, iv p1, iv p2, iv p3, iv p4, iv p5, iv (3 : Int32), rv b639, iv (2 : Int32), .unset, .unset] [(.int p2)])) t → Steps p.tables e below (s₁.setTop (entryFrame m #[(.int p0), (.int p1), (.int p2), (.int p3), (.int p4), (.int p5)] maxLocals)) t := fun t kt => pre993 _ (st994.trans kt)
      have pre996 : ∀ t, Steps p.tables e below (T994.setTop (mkF m 84 #[iv p0, iv p1, iv p2, iv p3, iv p4, iv p5, iv (3 : Int32), rv b639, iv (2 : Int32), iv p2, .unset] [(.int (2 : Int32)), (.ref b639)])) t → Steps p.tables e below (s₁.setTop (entryFrame m #[(.int p0), (.int p1), (.int p2), (.int p3), (.int p4), (.int p5)] maxLocals)) t := fun t kt => by
        refine pre995 _ ?_
        show Steps p.tables e below (T994.setTop (mkF m 76 #[iv p0, iv p1, iv p2, iv p3, iv p4, iv p5, iv (3 : Int32), rv b639, iv (2 : Int32), .unset, .unset] [(.int p2)])) _
        refine XS.istore X994.here hx rfl (hb hby at_76) rfl (l' := #[iv p0, iv p1, iv p2, iv p3, iv p4, iv p5, iv (3 : Int32), rv b639, iv (2 : Int32), iv p2, .unset]) rfl ?_
        show Steps p.tables e below (T994.setTop (mkF m 78 #[iv p0, iv p1, iv p2, iv p3, iv p4, iv p5, iv (3 : Int32), rv b639, iv (2 : Int32), iv p2, .unset] [])) _
        refine XS.aload X994.here hx rfl (hb hby at_78) rfl rfl ?_
        show Steps p.tables e below (T994.setTop (mkF m 80 #[iv p0, iv p1, iv p2, iv p3, iv p4, iv p5, iv (3 : Int32), rv b639, iv (2 : Int32), iv p2, .unset] [(.ref b639)])) _
        refine XS.iload X994.here hx rfl (hb hby at_80) rfl ?_
        show Steps p.tables e below (T994.setTop (mkF m 82 #[iv p0, iv p1, iv p2, iv p3, iv p4, iv p5, iv (3 : Int32), rv b639, iv (2 : Int32), iv p2, .unset] [(.int (3 : Int32)), (.ref b639)])) _
        refine XS.iconst X994.here hx rfl (hb hby at_82) ?_
        show Steps p.tables e below (T994.setTop (mkF m 83 #[iv p0, iv p1, iv p2, iv p3, iv p4, iv p5, iv (3 : Int32), rv b639, iv (2 : Int32), iv p2, .unset] [(.int (1 : Int32)), (.int (3 : Int32)), (.ref b639)])) _
        refine XS.isub X994.here hx rfl (hb hby at_83) rfl ?_
        show  Steps p.tables e below (T994.setTop (mkF m 84 #[iv p0, iv p1, iv p2, iv p3, iv p4, iv p5, iv (3 : Int32), rv b639, iv (2 : Int32), iv p2, .unset] [(.int ((3 : Int32) - (1 : Int32))), (.ref b639)])) _
        rw [(by decide : (((3 : Int32) - (1 : Int32)) : Int32) = (2 : Int32))]
        exact kt
      obtain ⟨cq997, kq997, q997a, q997b, q997c⟩ := isOf hZ e994 J656_0
      obtain ⟨_, _, ⟨T997, L997, k997, n997⟩, -, X997, ⟨Lc997, hQ997, l997, y997, z997⟩, st997⟩ := X994.virtualBack hx (y := (⟨"org/reachwatch/IntBlocks", "get", "(I)I"⟩ : MethodName)) (z := (⟨"org/reachwatch/IntBlocks", "get", "(I)I"⟩ : MethodName)) hown (mvT hZ (W 24 rfl)) (mvT hZ (W 25 rfl)) (notFace_of_selects (args := #[]) (mvT hZ (W 27 rfl))) (mvT hZ (W 27 rfl)) (mvT hZ (W 26 rfl)) (by decide) (backOf (W := 0) (rm_get4_4 l Z a0 hw [] b639 k51_645 b51_645 b221_648 p0 p1 p2 k221_648 h656 n0 O656 F808 J656_1 J656_3 J656_4) hZ (W 28 rfl) (W 2 rfl) (by decide) (by decide)) q997a q997c (g := (mkF m 84 #[iv p0, iv p1, iv p2, iv p3, iv p4, iv p5, iv (3 : Int32), rv b639, iv (2 : Int32), iv p2, .unset] [(.int (2 : Int32)), (.ref b639)])) rfl (by rw [hml]; rfl) (Steps.refl _) (argsL := [(.int (2 : Int32))]) (rest := []) (lenOf pd_14 rfl) rfl (by show 2 * 0 + _ ≤ _; exact Nat.le_of_eq rfl) (hb hby at_84) (fun _ _ => ⟨rfl, e994, (by decide : 3 + 0 ≤ _), (by decide : 19 + 0 ≤ _)⟩)
      dsimp only [Pt.U, Pt.locs, Pt.cells, Pt.slots] at X997 l997 y997 z997 st997 hQ997
      replace l997 := l997.symm
      replace y997 : 3 = k997 := y997.symm
      replace z997 : 19 = n997 := z997.symm
      subst l997 y997 z997
      obtain ⟨rfl, M997, e997⟩ := hQ997
      have N997 := Fr.app N994 M997
      have pre998 : ∀ t, Steps p.tables e below (T997.setTop (mkF m 87 #[iv p0, iv p1, iv p2, iv p3, iv p4, iv p5, iv (3 : Int32), rv b639, iv (2 : Int32), iv p2, .unset] [(.int p2)])) t → Steps p.tables e below (s₁.setTop (entryFrame m #[(.int p0), (.int p1), (.int p2), (.int p3), (.int p4), (.int p5)] maxLocals)) t := fun t kt => pre996 _ (st997.trans kt)
      have pre999 : ∀ t, Steps p.tables e below (T997.setTop (mkF m 97 #[iv p0, iv p1, iv p2, iv p3, iv p4, iv p5, iv (3 : Int32), rv b639, iv (2 : Int32), iv p2, iv p2] [(.int p3), (.int p2), (.int p1), (.int p0), (.int (2 : Int32)), (.int p2)])) t → Steps p.tables e below (s₁.setTop (entryFrame m #[(.int p0), (.int p1), (.int p2), (.int p3), (.int p4), (.int p5)] maxLocals)) t := fun t kt => by
        refine pre998 _ ?_
        show Steps p.tables e below (T997.setTop (mkF m 87 #[iv p0, iv p1, iv p2, iv p3, iv p4, iv p5, iv (3 : Int32), rv b639, iv (2 : Int32), iv p2, .unset] [(.int p2)])) _
        refine XS.istore X997.here hx rfl (hb hby at_87) rfl (l' := #[iv p0, iv p1, iv p2, iv p3, iv p4, iv p5, iv (3 : Int32), rv b639, iv (2 : Int32), iv p2, iv p2]) rfl ?_
        show Steps p.tables e below (T997.setTop (mkF m 89 #[iv p0, iv p1, iv p2, iv p3, iv p4, iv p5, iv (3 : Int32), rv b639, iv (2 : Int32), iv p2, iv p2] [])) _
        refine XS.iload X997.here hx rfl (hb hby at_89) rfl ?_
        show Steps p.tables e below (T997.setTop (mkF m 91 #[iv p0, iv p1, iv p2, iv p3, iv p4, iv p5, iv (3 : Int32), rv b639, iv (2 : Int32), iv p2, iv p2] [(.int p2)])) _
        refine XS.iload X997.here hx rfl (hb hby at_91) rfl ?_
        show Steps p.tables e below (T997.setTop (mkF m 93 #[iv p0, iv p1, iv p2, iv p3, iv p4, iv p5, iv (3 : Int32), rv b639, iv (2 : Int32), iv p2, iv p2] [(.int (2 : Int32)), (.int p2)])) _
        refine XS.iloadN X997.here hx rfl (hb hby at_93) rfl ?_
        show Steps p.tables e below (T997.setTop (mkF m 94 #[iv p0, iv p1, iv p2, iv p3, iv p4, iv p5, iv (3 : Int32), rv b639, iv (2 : Int32), iv p2, iv p2] [(.int p0), (.int (2 : Int32)), (.int p2)])) _
        refine XS.iloadN X997.here hx rfl (hb hby at_94) rfl ?_
        show Steps p.tables e below (T997.setTop (mkF m 95 #[iv p0, iv p1, iv p2, iv p3, iv p4, iv p5, iv (3 : Int32), rv b639, iv (2 : Int32), iv p2, iv p2] [(.int p1), (.int p0), (.int (2 : Int32)), (.int p2)])) _
        refine XS.iloadN X997.here hx rfl (hb hby at_95) rfl ?_
        show Steps p.tables e below (T997.setTop (mkF m 96 #[iv p0, iv p1, iv p2, iv p3, iv p4, iv p5, iv (3 : Int32), rv b639, iv (2 : Int32), iv p2, iv p2] [(.int p2), (.int p1), (.int p0), (.int (2 : Int32)), (.int p2)])) _
        refine XS.iloadN X997.here hx rfl (hb hby at_96) rfl ?_
        exact kt
      obtain ⟨_, _, ⟨T1000, L1000, k1000, n1000⟩, -, X1000, ⟨Lc1000, hQ1000, l1000, y1000, z1000⟩, st1000⟩ := Jvm.LawKit.callS X997 hx (y := (⟨"org/reachwatch/IntBlocksGetPinLaw", "ref", "(IIIII)I"⟩ : MethodName)) hown (mvT hZ (W 37 rfl)) (mvT hZ (W 38 rfl)) (mvT hZ (W 39 rfl)) (mvT hZ (W 40 rfl)) (by decide) (backOf (W := 1) (rm_ref7_2 l Z a0 hw [] p0 p1 p2 p3 h656 n0 O656) hZ (W 40 rfl) (W 39 rfl) (by decide) (by decide)) (g := (mkF m 97 #[iv p0, iv p1, iv p2, iv p3, iv p4, iv p5, iv (3 : Int32), rv b639, iv (2 : Int32), iv p2, iv p2] [(.int p3), (.int p2), (.int p1), (.int p0), (.int (2 : Int32)), (.int p2)])) rfl (by rw [hml]; rfl) (argsL := [(.int (2 : Int32)), (.int p0), (.int p1), (.int p2), (.int p3)]) (rest := [(.int p2)]) (lenOf pd_16 rfl) rfl (by show 2 * 0 + _ ≤ _; exact Nat.le_of_eq rfl) (hb hby at_97) (fun _ _ => ⟨rfl, e997, (by decide : 3 + 0 ≤ _), (by decide : 19 + 0 ≤ _)⟩)
      dsimp only [Pt.U, Pt.locs, Pt.cells, Pt.slots] at X1000 l1000 y1000 z1000 st1000 hQ1000
      replace l1000 := l1000.symm
      replace y1000 : 3 = k1000 := y1000.symm
      replace z1000 : 19 = n1000 := z1000.symm
      subst l1000 y1000 z1000
      obtain ⟨rfl, M1000, e1000⟩ := hQ1000
      have N1000 := Fr.app N997 M1000
      have pre1001 : ∀ t, Steps p.tables e below (T1000.setTop (mkF m 100 #[iv p0, iv p1, iv p2, iv p3, iv p4, iv p5, iv (3 : Int32), rv b639, iv (2 : Int32), iv p2, iv p2] [(.int p2), (.int p2)])) t → Steps p.tables e below (s₁.setTop (entryFrame m #[(.int p0), (.int p1), (.int p2), (.int p3), (.int p4), (.int p5)] maxLocals)) t := fun t kt => pre999 _ (st1000 _ kt)
      have pre1002 : ∀ t, Steps p.tables e below (T1000.setTop (mkF m 113 #[iv p0, iv p1, iv p2, iv p3, iv p4, iv p5, iv (3 : Int32), rv b639, iv (2 : Int32), iv p2, iv p2] [(.int p3), (.int p2), (.int p1), (.int p0), (.int (2 : Int32)), (.int p2)])) t → Steps p.tables e below (s₁.setTop (entryFrame m #[(.int p0), (.int p1), (.int p2), (.int p3), (.int p4), (.int p5)] maxLocals)) t := fun t kt => by
        refine pre1001 _ ?_
        show Steps p.tables e below (T1000.setTop (mkF m 100 #[iv p0, iv p1, iv p2, iv p3, iv p4, iv p5, iv (3 : Int32), rv b639, iv (2 : Int32), iv p2, iv p2] [(.int p2), (.int p2)])) _
        refine XS.icmpNo X1000.here hx rfl (hb hby at_100) rfl (XT.ii_ne_f rfl) ?_
        show Steps p.tables e below (T1000.setTop (mkF m 103 #[iv p0, iv p1, iv p2, iv p3, iv p4, iv p5, iv (3 : Int32), rv b639, iv (2 : Int32), iv p2, iv p2] [])) _
        refine XS.iload X1000.here hx rfl (hb hby at_103) rfl ?_
        show Steps p.tables e below (T1000.setTop (mkF m 105 #[iv p0, iv p1, iv p2, iv p3, iv p4, iv p5, iv (3 : Int32), rv b639, iv (2 : Int32), iv p2, iv p2] [(.int p2)])) _
        refine XS.iload X1000.here hx rfl (hb hby at_105) rfl ?_
        show Steps p.tables e below (T1000.setTop (mkF m 107 #[iv p0, iv p1, iv p2, iv p3, iv p4, iv p5, iv (3 : Int32), rv b639, iv (2 : Int32), iv p2, iv p2] [(.int (3 : Int32)), (.int p2)])) _
        refine XS.iconst X1000.here hx rfl (hb hby at_107) ?_
        show Steps p.tables e below (T1000.setTop (mkF m 108 #[iv p0, iv p1, iv p2, iv p3, iv p4, iv p5, iv (3 : Int32), rv b639, iv (2 : Int32), iv p2, iv p2] [(.int (1 : Int32)), (.int (3 : Int32)), (.int p2)])) _
        refine XS.isub X1000.here hx rfl (hb hby at_108) rfl ?_
        show  Steps p.tables e below (T1000.setTop (mkF m 109 #[iv p0, iv p1, iv p2, iv p3, iv p4, iv p5, iv (3 : Int32), rv b639, iv (2 : Int32), iv p2, iv p2] [(.int ((3 : Int32) - (1 : Int32))), (.int p2)])) _
        rw [(by decide : (((3 : Int32) - (1 : Int32)) : Int32) = (2 : Int32))]
        show Steps p.tables e below (T1000.setTop (mkF m 109 #[iv p0, iv p1, iv p2, iv p3, iv p4, iv p5, iv (3 : Int32), rv b639, iv (2 : Int32), iv p2, iv p2] [(.int (2 : Int32)), (.int p2)])) _
        refine XS.iloadN X1000.here hx rfl (hb hby at_109) rfl ?_
        show Steps p.tables e below (T1000.setTop (mkF m 110 #[iv p0, iv p1, iv p2, iv p3, iv p4, iv p5, iv (3 : Int32), rv b639, iv (2 : Int32), iv p2, iv p2] [(.int p0), (.int (2 : Int32)), (.int p2)])) _
        refine XS.iloadN X1000.here hx rfl (hb hby at_110) rfl ?_
        show Steps p.tables e below (T1000.setTop (mkF m 111 #[iv p0, iv p1, iv p2, iv p3, iv p4, iv p5, iv (3 : Int32), rv b639, iv (2 : Int32), iv p2, iv p2] [(.int p1), (.int p0), (.int (2 : Int32)), (.int p2)])) _
        refine XS.iloadN X1000.here hx rfl (hb hby at_111) rfl ?_
        show Steps p.tables e below (T1000.setTop (mkF m 112 #[iv p0, iv p1, iv p2, iv p3, iv p4, iv p5, iv (3 : Int32), rv b639, iv (2 : Int32), iv p2, iv p2] [(.int p2), (.int p1), (.int p0), (.int (2 : Int32)), (.int p2)])) _
        refine XS.iloadN X1000.here hx rfl (hb hby at_112) rfl ?_
        exact kt
      obtain ⟨_, _, ⟨T1003, L1003, k1003, n1003⟩, -, X1003, ⟨Lc1003, hQ1003, l1003, y1003, z1003⟩, st1003⟩ := Jvm.LawKit.callS X1000 hx (y := (⟨"org/reachwatch/IntBlocksGetPinLaw", "ref", "(IIIII)I"⟩ : MethodName)) hown (mvT hZ (W 37 rfl)) (mvT hZ (W 38 rfl)) (mvT hZ (W 39 rfl)) (mvT hZ (W 40 rfl)) (by decide) (backOf (W := 1) (rm_ref7_2 l Z a0 hw [] p0 p1 p2 p3 h656 n0 O656) hZ (W 40 rfl) (W 39 rfl) (by decide) (by decide)) (g := (mkF m 113 #[iv p0, iv p1, iv p2, iv p3, iv p4, iv p5, iv (3 : Int32), rv b639, iv (2 : Int32), iv p2, iv p2] [(.int p3), (.int p2), (.int p1), (.int p0), (.int (2 : Int32)), (.int p2)])) rfl (by rw [hml]; rfl) (argsL := [(.int (2 : Int32)), (.int p0), (.int p1), (.int p2), (.int p3)]) (rest := [(.int p2)]) (lenOf pd_16 rfl) rfl (by show 2 * 0 + _ ≤ _; exact Nat.le_of_eq rfl) (hb hby at_113) (fun _ _ => ⟨rfl, e1000, (by decide : 3 + 0 ≤ _), (by decide : 19 + 0 ≤ _)⟩)
      dsimp only [Pt.U, Pt.locs, Pt.cells, Pt.slots] at X1003 l1003 y1003 z1003 st1003 hQ1003
      replace l1003 := l1003.symm
      replace y1003 : 3 = k1003 := y1003.symm
      replace z1003 : 19 = n1003 := z1003.symm
      subst l1003 y1003 z1003
      obtain ⟨rfl, M1003, e1003⟩ := hQ1003
      have N1003 := Fr.app N1000 M1003
      have pre1004 : ∀ t, Steps p.tables e below (T1003.setTop (mkF m 116 #[iv p0, iv p1, iv p2, iv p3, iv p4, iv p5, iv (3 : Int32), rv b639, iv (2 : Int32), iv p2, iv p2] [(.int p2), (.int p2)])) t → Steps p.tables e below (s₁.setTop (entryFrame m #[(.int p0), (.int p1), (.int p2), (.int p3), (.int p4), (.int p5)] maxLocals)) t := fun t kt => pre1002 _ (st1003 _ kt)
      have pre1005 : ∀ t, Steps p.tables e below (T1003.setTop (mkF m 124 #[iv p0, iv p1, iv p2, iv p3, iv p4, iv p5, iv (3 : Int32), rv b639, iv (2 : Int32), iv p2, iv p2] [(.int (1 : Int32))])) t → Steps p.tables e below (s₁.setTop (entryFrame m #[(.int p0), (.int p1), (.int p2), (.int p3), (.int p4), (.int p5)] maxLocals)) t := fun t kt => by
        refine pre1004 _ ?_
        show Steps p.tables e below (T1003.setTop (mkF m 116 #[iv p0, iv p1, iv p2, iv p3, iv p4, iv p5, iv (3 : Int32), rv b639, iv (2 : Int32), iv p2, iv p2] [(.int p2), (.int p2)])) _
        refine XS.icmpNo X1003.here hx rfl (hb hby at_116) rfl (XT.ii_ne_f rfl) ?_
        show Steps p.tables e below (T1003.setTop (mkF m 119 #[iv p0, iv p1, iv p2, iv p3, iv p4, iv p5, iv (3 : Int32), rv b639, iv (2 : Int32), iv p2, iv p2] [])) _
        refine XS.iconst X1003.here hx rfl (hb hby at_119) ?_
        show Steps p.tables e below (T1003.setTop (mkF m 120 #[iv p0, iv p1, iv p2, iv p3, iv p4, iv p5, iv (3 : Int32), rv b639, iv (2 : Int32), iv p2, iv p2] [(.int (1 : Int32))])) _
        refine XS.goto X1003.here hx rfl (pc0 := 120) (pc' := 124) rfl (hb hby at_120) (by decide) (by decide) ?_
        exact kt
      obtain ⟨fs, hr, hrun, hended, hW, hsame⟩ := X1003.leave (v := some (.int (1 : Int32))) (fun h => by rw [Bd.returns] at h; cases h)
      refine ⟨_, _, pre1005 _ (retN X1003 hx (t := .boolean) Bd.returns (by simp) (hb hby at_124) hr), hrun, hended, _, _, rfl, ?_, ⟨_, rfl⟩, hW, hsame.mono (by decide) (by decide)⟩
      show Q_law Z p0 p1 p2 p3 p4 p5 h0 n0 _ T1003.heap _
      rw [e1003]
      exact ⟨rfl, N1003⟩
  · rw [hv2] at pre1
    have pre1006 : ∀ t, Steps p.tables e below (s₁.setTop (mkF m 8 #[iv p0, iv p1, iv p2, iv p3, iv p4, iv p5, iv (4 : Int32), .unset, .unset, .unset, .unset] [])) t → Steps p.tables e below (s₁.setTop (entryFrame m #[(.int p0), (.int p1), (.int p2), (.int p3), (.int p4), (.int p5)] maxLocals)) t := fun t kt => by
      refine pre1 _ ?_
      show Steps p.tables e below (s₁.setTop (mkF m 4 #[iv p0, iv p1, iv p2, iv p3, iv p4, iv p5, .unset, .unset, .unset, .unset, .unset] [(.int (3 : Int32))])) _
      refine XS.iconst X0.here hx rfl (hb hby at_4) ?_
      show Steps p.tables e below (s₁.setTop (mkF m 5 #[iv p0, iv p1, iv p2, iv p3, iv p4, iv p5, .unset, .unset, .unset, .unset, .unset] [(.int (1 : Int32)), (.int (3 : Int32))])) _
      refine XS.iadd X0.here hx rfl (hb hby at_5) rfl ?_
      show  Steps p.tables e below (s₁.setTop (mkF m 6 #[iv p0, iv p1, iv p2, iv p3, iv p4, iv p5, .unset, .unset, .unset, .unset, .unset] [(.int ((3 : Int32) + (1 : Int32)))])) _
      rw [(by decide : (((3 : Int32) + (1 : Int32)) : Int32) = (4 : Int32))]
      show Steps p.tables e below (s₁.setTop (mkF m 6 #[iv p0, iv p1, iv p2, iv p3, iv p4, iv p5, .unset, .unset, .unset, .unset, .unset] [(.int (4 : Int32))])) _
      refine XS.istore X0.here hx rfl (hb hby at_6) rfl (l' := #[iv p0, iv p1, iv p2, iv p3, iv p4, iv p5, iv (4 : Int32), .unset, .unset, .unset, .unset]) rfl ?_
      exact kt
    obtain ⟨T1007, h1007, X1007, e1007, E1007, A1007, D1007, -, st1007⟩ := newO X0 hx hZ hown (W 0 rfl) (W 1 rfl) (W 2 rfl) e0 (g := (mkF m 8 #[iv p0, iv p1, iv p2, iv p3, iv p4, iv p5, iv (4 : Int32), .unset, .unset, .unset, .unset] [])) rfl (hb hby at_8) (by decide) (by decide)
    obtain ⟨b1007, g1007⟩ : ∃ z, z = h0.size := ⟨_, rfl⟩
    rw [← g1007] at A1007 D1007 st1007
    have pre1008 : ∀ t, Steps p.tables e below (T1007.setTop (mkF m 11 #[iv p0, iv p1, iv p2, iv p3, iv p4, iv p5, iv (4 : Int32), .unset, .unset, .unset, .unset] [(.ref b1007)])) t → Steps p.tables e below (s₁.setTop (entryFrame m #[(.int p0), (.int p1), (.int p2), (.int p3), (.int p4), (.int p5)] maxLocals)) t := fun t kt => pre1006 _ (st1007 _ kt)
    have O1007 := O0.ext E1007
    have K1007 : Keep h0 h1007 [] := K0.ext E1007
    have g_b1007 : n0 ≤ b1007 := Nat.le_trans (Nat.le_trans (Nat.le_of_eq O0.1.symm) O0.2.1) (Nat.le_of_eq g1007.symm)
    have sz_b1007 : h0.size ≤ b1007 := Nat.le_trans K0.1 (Nat.le_of_eq g1007.symm)
    have F1009 : Exa Z h1007 b1007 "org/reachwatch/IntBlocks" := A1007
    have F1010 : Fld Z h1007 b1007 "org/reachwatch/IntBlocks" "blocks" "[[I" .null := D1007 (Or.inl (W 12 rfl)) (ty := (.array (.array .int))) (by decide)
    have F1011 : Fld Z h1007 b1007 "org/reachwatch/IntBlocks" "size" "I" (.int (0 : Int32)) := D1007 (Or.inl (W 19 rfl)) (ty := .int) (by decide)
    have pre1012 : ∀ t, Steps p.tables e below (T1007.setTop (mkF m 12 #[iv p0, iv p1, iv p2, iv p3, iv p4, iv p5, iv (4 : Int32), .unset, .unset, .unset, .unset] [(.ref b1007), (.ref b1007)])) t → Steps p.tables e below (s₁.setTop (entryFrame m #[(.int p0), (.int p1), (.int p2), (.int p3), (.int p4), (.int p5)] maxLocals)) t := fun t kt => by
      refine pre1008 _ ?_
      show Steps p.tables e below (T1007.setTop (mkF m 11 #[iv p0, iv p1, iv p2, iv p3, iv p4, iv p5, iv (4 : Int32), .unset, .unset, .unset, .unset] [(.ref b1007)])) _
      refine XS.dup X1007.here hx rfl (hb hby at_11) rfl rfl ?_
      exact kt
    obtain ⟨_, _, ⟨T1013, L1013, k1013, n1013⟩, -, X1013, ⟨Lc1013, hQ1013, l1013, y1013, z1013⟩, st1013⟩ := X1007.specialBack hx (y := (⟨"org/reachwatch/IntBlocks", "<init>", "()V"⟩ : MethodName)) rfl hown (mvT hZ (W 3 rfl)) (mvT hZ (W 4 rfl)) (mvT hZ (W 5 rfl)) (by decide) (backOf (W := 1) (rm_init1_0 l Z a0 hw [] b1007 h1007 n0 O1007 g_b1007 F1009 F1010 F1011) hZ (W 5 rfl) (W 2 rfl) (by decide) (by decide)) (g := (mkF m 12 #[iv p0, iv p1, iv p2, iv p3, iv p4, iv p5, iv (4 : Int32), .unset, .unset, .unset, .unset] [(.ref b1007), (.ref b1007)])) rfl (by rw [hml]; rfl) (Steps.refl _) (a := b1007) (argsL := []) (rest := [(.ref b1007)]) (lenOf pd_4 rfl) rfl (by show 2 * 0 + _ ≤ _; exact Nat.le_of_eq rfl) (hb hby at_12) (fun _ _ => ⟨rfl, e1007, (by decide : 1 + 1 ≤ _), (by decide : 2 + 1 ≤ _)⟩)
    dsimp only [Pt.U, Pt.locs, Pt.cells, Pt.slots] at X1013 l1013 y1013 z1013 st1013 hQ1013
    replace l1013 := l1013.symm
    replace y1013 : 2 = k1013 := y1013.symm
    replace z1013 : 3 = n1013 := z1013.symm
    subst l1013 y1013 z1013
    obtain ⟨b51_1013, k51_1013, rfl, M1013, Kc1013, O1013, J1013_0, J1013_1, J1013_2, J1013_3, J1013_4, J1013_5, P1013_0⟩ := hQ1013
    obtain ⟨h1013, e1013⟩ : ∃ z, T1013.heap = z := ⟨_, rfl⟩
    rw [e1013] at Kc1013 O1013 J1013_0 J1013_1 J1013_2 J1013_4 J1013_5
    try rw [e1013] at P1013_0
    have N1013 := Fr.app N0 M1013
    have K1013 : Keep h0 h1013 [] := K1007.trans Kc1013 (own_all1 (Or.inr sz_b1007))
    have pre1014 : ∀ t, Steps p.tables e below (T1013.setTop (mkF m 15 #[iv p0, iv p1, iv p2, iv p3, iv p4, iv p5, iv (4 : Int32), .unset, .unset, .unset, .unset] [(.ref b1007)])) t → Steps p.tables e below (s₁.setTop (entryFrame m #[(.int p0), (.int p1), (.int p2), (.int p3), (.int p4), (.int p5)] maxLocals)) t := fun t kt => pre1012 _ (st1013.trans kt)
    have sz_b51_1013 : h0.size ≤ b51_1013 := Nat.le_trans K1007.1 P1013_0
    have ne_b1007_b51_1013 : b1007 ≠ b51_1013 := Nat.ne_of_lt (Nat.lt_of_lt_of_le F1009.lt P1013_0)
    have g_b51_1013 : n0 ≤ b51_1013 := Nat.le_trans (Nat.le_trans (Nat.le_of_eq O0.1.symm) O0.2.1) sz_b51_1013
    have pre1015 : ∀ t, Steps p.tables e below (T1013.setTop (mkF m 20 #[iv p0, iv p1, iv p2, iv p3, iv p4, iv p5, iv (4 : Int32), rv b1007, .unset, .unset, .unset] [(.int p0), (.ref b1007)])) t → Steps p.tables e below (s₁.setTop (entryFrame m #[(.int p0), (.int p1), (.int p2), (.int p3), (.int p4), (.int p5)] maxLocals)) t := fun t kt => by
      refine pre1014 _ ?_
      show Steps p.tables e below (T1013.setTop (mkF m 15 #[iv p0, iv p1, iv p2, iv p3, iv p4, iv p5, iv (4 : Int32), .unset, .unset, .unset, .unset] [(.ref b1007)])) _
      refine XS.astore X1013.here hx rfl (hb hby at_15) rfl rfl (l' := #[iv p0, iv p1, iv p2, iv p3, iv p4, iv p5, iv (4 : Int32), rv b1007, .unset, .unset, .unset]) rfl ?_
      show Steps p.tables e below (T1013.setTop (mkF m 17 #[iv p0, iv p1, iv p2, iv p3, iv p4, iv p5, iv (4 : Int32), rv b1007, .unset, .unset, .unset] [])) _
      refine XS.aload X1013.here hx rfl (hb hby at_17) rfl rfl ?_
      show Steps p.tables e below (T1013.setTop (mkF m 19 #[iv p0, iv p1, iv p2, iv p3, iv p4, iv p5, iv (4 : Int32), rv b1007, .unset, .unset, .unset] [(.ref b1007)])) _
      refine XS.iloadN X1013.here hx rfl (hb hby at_19) rfl ?_
      exact kt
    obtain ⟨cq1016, kq1016, q1016a, q1016b, q1016c⟩ := isOf hZ e1013 J1013_0
    obtain ⟨_, _, ⟨T1016, L1016, k1016, n1016⟩, -, X1016, ⟨Lc1016, hQ1016, l1016, y1016, z1016⟩, st1016⟩ := X1013.virtualBack hx (y := (⟨"org/reachwatch/IntBlocks", "add", "(I)V"⟩ : MethodName)) (z := (⟨"org/reachwatch/IntBlocks", "add", "(I)V"⟩ : MethodName)) hown (mvT hZ (W 13 rfl)) (mvT hZ (W 14 rfl)) (notFace_of_selects (args := #[]) (mvT hZ (W 16 rfl))) (mvT hZ (W 16 rfl)) (mvT hZ (W 15 rfl)) (by decide) (backOf (W := 0) (rm_add3_0 l Z a0 hw [] b1007 p0 b51_1013 k51_1013 h1013 n0 O1013 g_b1007 g_b51_1013 J1013_0 J1013_1 J1013_2 J1013_3 J1013_4 J1013_5 (fun q => ne_b1007_b51_1013 q.symm)) hZ (W 17 rfl) (W 2 rfl) (by decide) (by decide)) q1016a q1016c (g := (mkF m 20 #[iv p0, iv p1, iv p2, iv p3, iv p4, iv p5, iv (4 : Int32), rv b1007, .unset, .unset, .unset] [(.int p0), (.ref b1007)])) rfl (by rw [hml]; rfl) (Steps.refl _) (argsL := [(.int p0)]) (rest := []) (lenOf pd_6 rfl) rfl (by show 2 * 0 + _ ≤ _; exact Nat.le_of_eq rfl) (hb hby at_20) (fun _ _ => ⟨rfl, e1013, (by decide : 2 + 1 ≤ _), (by decide : 3 + 16 ≤ _)⟩)
    dsimp only [Pt.U, Pt.locs, Pt.cells, Pt.slots] at X1016 l1016 y1016 z1016 st1016 hQ1016
    replace l1016 := l1016.symm
    replace y1016 : 3 = k1016 := y1016.symm
    replace z1016 : 19 = n1016 := z1016.symm
    subst l1016 y1016 z1016
    obtain ⟨b221_1016, k221_1016, rfl, M1016, Kc1016, O1016, J1016_0, J1016_1, J1016_2, J1016_3, J1016_4, J1016_5, J1016_6, P1016_0⟩ := hQ1016
    obtain ⟨h1016, e1016⟩ : ∃ z, T1016.heap = z := ⟨_, rfl⟩
    rw [e1016] at Kc1016 O1016 J1016_0 J1016_1 J1016_2 J1016_3 J1016_4 J1016_5 J1016_6
    try rw [e1016] at P1016_0
    have N1016 := Fr.app N1013 M1016
    have K1016 : Keep h0 h1016 [] := K1013.trans Kc1016 (own_all2 (Or.inr sz_b1007) (Or.inr sz_b51_1013))
    have pre1017 : ∀ t, Steps p.tables e below (T1016.setTop (mkF m 23 #[iv p0, iv p1, iv p2, iv p3, iv p4, iv p5, iv (4 : Int32), rv b1007, .unset, .unset, .unset] [])) t → Steps p.tables e below (s₁.setTop (entryFrame m #[(.int p0), (.int p1), (.int p2), (.int p3), (.int p4), (.int p5)] maxLocals)) t := fun t kt => pre1015 _ (st1016.trans kt)
    have sz_b221_1016 : h0.size ≤ b221_1016 := Nat.le_trans K1013.1 P1016_0
    have ne_b1007_b221_1016 : b1007 ≠ b221_1016 := Nat.ne_of_lt (Nat.lt_of_lt_of_le J1013_0.lt P1016_0)
    have ne_b51_1013_b221_1016 : b51_1013 ≠ b221_1016 := Nat.ne_of_lt (Nat.lt_of_lt_of_le J1013_2.lt P1016_0)
    have g_b221_1016 : n0 ≤ b221_1016 := Nat.le_trans (Nat.le_trans (Nat.le_of_eq O0.1.symm) O0.2.1) sz_b221_1016
    have pre1018 : ∀ t, Steps p.tables e below (T1016.setTop (mkF m 32 #[iv p0, iv p1, iv p2, iv p3, iv p4, iv p5, iv (4 : Int32), rv b1007, .unset, .unset, .unset] [(.int p1), (.ref b1007)])) t → Steps p.tables e below (s₁.setTop (entryFrame m #[(.int p0), (.int p1), (.int p2), (.int p3), (.int p4), (.int p5)] maxLocals)) t := fun t kt => by
      refine pre1017 _ ?_
      show Steps p.tables e below (T1016.setTop (mkF m 23 #[iv p0, iv p1, iv p2, iv p3, iv p4, iv p5, iv (4 : Int32), rv b1007, .unset, .unset, .unset] [])) _
      refine XS.iload X1016.here hx rfl (hb hby at_23) rfl ?_
      show Steps p.tables e below (T1016.setTop (mkF m 25 #[iv p0, iv p1, iv p2, iv p3, iv p4, iv p5, iv (4 : Int32), rv b1007, .unset, .unset, .unset] [(.int (4 : Int32))])) _
      refine XS.iconst X1016.here hx rfl (hb hby at_25) ?_
      show Steps p.tables e below (T1016.setTop (mkF m 26 #[iv p0, iv p1, iv p2, iv p3, iv p4, iv p5, iv (4 : Int32), rv b1007, .unset, .unset, .unset] [(.int (2 : Int32)), (.int (4 : Int32))])) _
      refine XS.icmpNo X1016.here hx rfl (hb hby at_26) rfl (XT.ii_lt_f (by decide)) ?_
      show Steps p.tables e below (T1016.setTop (mkF m 29 #[iv p0, iv p1, iv p2, iv p3, iv p4, iv p5, iv (4 : Int32), rv b1007, .unset, .unset, .unset] [])) _
      refine XS.aload X1016.here hx rfl (hb hby at_29) rfl rfl ?_
      show Steps p.tables e below (T1016.setTop (mkF m 31 #[iv p0, iv p1, iv p2, iv p3, iv p4, iv p5, iv (4 : Int32), rv b1007, .unset, .unset, .unset] [(.ref b1007)])) _
      refine XS.iloadN X1016.here hx rfl (hb hby at_31) rfl ?_
      exact kt
    obtain ⟨cq1019, kq1019, q1019a, q1019b, q1019c⟩ := isOf hZ e1016 J1016_0
    obtain ⟨_, _, ⟨T1019, L1019, k1019, n1019⟩, -, X1019, ⟨Lc1019, hQ1019, l1019, y1019, z1019⟩, st1019⟩ := X1016.virtualBack hx (y := (⟨"org/reachwatch/IntBlocks", "add", "(I)V"⟩ : MethodName)) (z := (⟨"org/reachwatch/IntBlocks", "add", "(I)V"⟩ : MethodName)) hown (mvT hZ (W 13 rfl)) (mvT hZ (W 14 rfl)) (notFace_of_selects (args := #[]) (mvT hZ (W 16 rfl))) (mvT hZ (W 16 rfl)) (mvT hZ (W 15 rfl)) (by decide) (backOf (W := 0) (rm_add3_1 l Z a0 hw [] b1007 p1 k51_1013 b51_1013 b221_1016 p0 k221_1016 h1016 n0 O1016 g_b1007 g_b221_1016 J1016_0 J1016_2 J1016_3 J1016_4 J1016_5 J1016_6 (fun q => ne_b1007_b51_1013 q.symm) (fun q => ne_b1007_b221_1016 q.symm) (fun q => ne_b51_1013_b221_1016 q.symm)) hZ (W 17 rfl) (W 2 rfl) (by decide) (by decide)) q1019a q1019c (g := (mkF m 32 #[iv p0, iv p1, iv p2, iv p3, iv p4, iv p5, iv (4 : Int32), rv b1007, .unset, .unset, .unset] [(.int p1), (.ref b1007)])) rfl (by rw [hml]; rfl) (Steps.refl _) (argsL := [(.int p1)]) (rest := []) (lenOf pd_6 rfl) rfl (by show 2 * 0 + _ ≤ _; exact Nat.le_of_eq rfl) (hb hby at_32) (fun _ _ => ⟨rfl, e1016, (by decide : 3 + 0 ≤ _), (by decide : 19 + 0 ≤ _)⟩)
    dsimp only [Pt.U, Pt.locs, Pt.cells, Pt.slots] at X1019 l1019 y1019 z1019 st1019 hQ1019
    replace l1019 := l1019.symm
    replace y1019 : 3 = k1019 := y1019.symm
    replace z1019 : 19 = n1019 := z1019.symm
    subst l1019 y1019 z1019
    obtain ⟨rfl, M1019, Kc1019, O1019, J1019_0, J1019_1, J1019_2, J1019_3, J1019_4⟩ := hQ1019
    obtain ⟨h1019, e1019⟩ : ∃ z, T1019.heap = z := ⟨_, rfl⟩
    rw [e1019] at Kc1019 O1019 J1019_0 J1019_1 J1019_2 J1019_3 J1019_4
    have N1019 := Fr.app N1016 M1019
    have K1019 : Keep h0 h1019 [] := K1016.trans Kc1019 (own_all2 (Or.inr sz_b1007) (Or.inr sz_b221_1016))
    have pre1020 : ∀ t, Steps p.tables e below (T1019.setTop (mkF m 35 #[iv p0, iv p1, iv p2, iv p3, iv p4, iv p5, iv (4 : Int32), rv b1007, .unset, .unset, .unset] [])) t → Steps p.tables e below (s₁.setTop (entryFrame m #[(.int p0), (.int p1), (.int p2), (.int p3), (.int p4), (.int p5)] maxLocals)) t := fun t kt => pre1018 _ (st1019.trans kt)
    have F1021 := J1016_1.keep Kc1019
    have F1022 := J1016_4.keep Kc1019 (own_nm2 (fun q => ne_b1007_b51_1013 q.symm) ne_b51_1013_b221_1016)
    have pre1023 : ∀ t, Steps p.tables e below (T1019.setTop (mkF m 44 #[iv p0, iv p1, iv p2, iv p3, iv p4, iv p5, iv (4 : Int32), rv b1007, .unset, .unset, .unset] [(.int p2), (.ref b1007)])) t → Steps p.tables e below (s₁.setTop (entryFrame m #[(.int p0), (.int p1), (.int p2), (.int p3), (.int p4), (.int p5)] maxLocals)) t := fun t kt => by
      refine pre1020 _ ?_
      show Steps p.tables e below (T1019.setTop (mkF m 35 #[iv p0, iv p1, iv p2, iv p3, iv p4, iv p5, iv (4 : Int32), rv b1007, .unset, .unset, .unset] [])) _
      refine XS.iload X1019.here hx rfl (hb hby at_35) rfl ?_
      show Steps p.tables e below (T1019.setTop (mkF m 37 #[iv p0, iv p1, iv p2, iv p3, iv p4, iv p5, iv (4 : Int32), rv b1007, .unset, .unset, .unset] [(.int (4 : Int32))])) _
      refine XS.iconst X1019.here hx rfl (hb hby at_37) ?_
      show Steps p.tables e below (T1019.setTop (mkF m 38 #[iv p0, iv p1, iv p2, iv p3, iv p4, iv p5, iv (4 : Int32), rv b1007, .unset, .unset, .unset] [(.int (3 : Int32)), (.int (4 : Int32))])) _
      refine XS.icmpNo X1019.here hx rfl (hb hby at_38) rfl (XT.ii_lt_f (by decide)) ?_
      show Steps p.tables e below (T1019.setTop (mkF m 41 #[iv p0, iv p1, iv p2, iv p3, iv p4, iv p5, iv (4 : Int32), rv b1007, .unset, .unset, .unset] [])) _
      refine XS.aload X1019.here hx rfl (hb hby at_41) rfl rfl ?_
      show Steps p.tables e below (T1019.setTop (mkF m 43 #[iv p0, iv p1, iv p2, iv p3, iv p4, iv p5, iv (4 : Int32), rv b1007, .unset, .unset, .unset] [(.ref b1007)])) _
      refine XS.iloadN X1019.here hx rfl (hb hby at_43) rfl ?_
      exact kt
    obtain ⟨cq1024, kq1024, q1024a, q1024b, q1024c⟩ := isOf hZ e1019 J1019_0
    obtain ⟨_, _, ⟨T1024, L1024, k1024, n1024⟩, -, X1024, ⟨Lc1024, hQ1024, l1024, y1024, z1024⟩, st1024⟩ := X1019.virtualBack hx (y := (⟨"org/reachwatch/IntBlocks", "add", "(I)V"⟩ : MethodName)) (z := (⟨"org/reachwatch/IntBlocks", "add", "(I)V"⟩ : MethodName)) hown (mvT hZ (W 13 rfl)) (mvT hZ (W 14 rfl)) (notFace_of_selects (args := #[]) (mvT hZ (W 16 rfl))) (mvT hZ (W 16 rfl)) (mvT hZ (W 15 rfl)) (by decide) (backOf (W := 0) (rm_add3_2 l Z a0 hw [] b1007 p2 k51_1013 b51_1013 b221_1016 p0 p1 k221_1016 h1019 n0 O1019 g_b1007 g_b221_1016 F1022 J1019_0 J1019_1 J1019_2 J1019_3 J1019_4 (fun q => ne_b1007_b51_1013 q.symm) (fun q => ne_b1007_b221_1016 q.symm) (fun q => ne_b51_1013_b221_1016 q.symm)) hZ (W 17 rfl) (W 2 rfl) (by decide) (by decide)) q1024a q1024c (g := (mkF m 44 #[iv p0, iv p1, iv p2, iv p3, iv p4, iv p5, iv (4 : Int32), rv b1007, .unset, .unset, .unset] [(.int p2), (.ref b1007)])) rfl (by rw [hml]; rfl) (Steps.refl _) (argsL := [(.int p2)]) (rest := []) (lenOf pd_6 rfl) rfl (by show 2 * 0 + _ ≤ _; exact Nat.le_of_eq rfl) (hb hby at_44) (fun _ _ => ⟨rfl, e1019, (by decide : 3 + 0 ≤ _), (by decide : 19 + 0 ≤ _)⟩)
    dsimp only [Pt.U, Pt.locs, Pt.cells, Pt.slots] at X1024 l1024 y1024 z1024 st1024 hQ1024
    replace l1024 := l1024.symm
    replace y1024 : 3 = k1024 := y1024.symm
    replace z1024 : 19 = n1024 := z1024.symm
    subst l1024 y1024 z1024
    obtain ⟨rfl, M1024, Kc1024, O1024, J1024_0, J1024_1, J1024_2, J1024_3, J1024_4⟩ := hQ1024
    obtain ⟨h1024, e1024⟩ : ∃ z, T1024.heap = z := ⟨_, rfl⟩
    rw [e1024] at Kc1024 O1024 J1024_0 J1024_1 J1024_2 J1024_3 J1024_4
    have N1024 := Fr.app N1019 M1024
    have K1024 : Keep h0 h1024 [] := K1019.trans Kc1024 (own_all2 (Or.inr sz_b1007) (Or.inr sz_b221_1016))
    have pre1025 : ∀ t, Steps p.tables e below (T1024.setTop (mkF m 47 #[iv p0, iv p1, iv p2, iv p3, iv p4, iv p5, iv (4 : Int32), rv b1007, .unset, .unset, .unset] [])) t → Steps p.tables e below (s₁.setTop (entryFrame m #[(.int p0), (.int p1), (.int p2), (.int p3), (.int p4), (.int p5)] maxLocals)) t := fun t kt => pre1023 _ (st1024.trans kt)
    have F1026 := F1021.keep Kc1024
    have F1027 := F1022.keep Kc1024 (own_nm2 (fun q => ne_b1007_b51_1013 q.symm) ne_b51_1013_b221_1016)
    have pre1028 : ∀ t, Steps p.tables e below (T1024.setTop (mkF m 56 #[iv p0, iv p1, iv p2, iv p3, iv p4, iv p5, iv (4 : Int32), rv b1007, .unset, .unset, .unset] [(.int p3), (.ref b1007)])) t → Steps p.tables e below (s₁.setTop (entryFrame m #[(.int p0), (.int p1), (.int p2), (.int p3), (.int p4), (.int p5)] maxLocals)) t := fun t kt => by
      refine pre1025 _ ?_
      show Steps p.tables e below (T1024.setTop (mkF m 47 #[iv p0, iv p1, iv p2, iv p3, iv p4, iv p5, iv (4 : Int32), rv b1007, .unset, .unset, .unset] [])) _
      refine XS.iload X1024.here hx rfl (hb hby at_47) rfl ?_
      show Steps p.tables e below (T1024.setTop (mkF m 49 #[iv p0, iv p1, iv p2, iv p3, iv p4, iv p5, iv (4 : Int32), rv b1007, .unset, .unset, .unset] [(.int (4 : Int32))])) _
      refine XS.iconst X1024.here hx rfl (hb hby at_49) ?_
      show Steps p.tables e below (T1024.setTop (mkF m 50 #[iv p0, iv p1, iv p2, iv p3, iv p4, iv p5, iv (4 : Int32), rv b1007, .unset, .unset, .unset] [(.int (4 : Int32)), (.int (4 : Int32))])) _
      refine XS.icmpNo X1024.here hx rfl (hb hby at_50) rfl (XT.ii_lt_f (by decide)) ?_
      show Steps p.tables e below (T1024.setTop (mkF m 53 #[iv p0, iv p1, iv p2, iv p3, iv p4, iv p5, iv (4 : Int32), rv b1007, .unset, .unset, .unset] [])) _
      refine XS.aload X1024.here hx rfl (hb hby at_53) rfl rfl ?_
      show Steps p.tables e below (T1024.setTop (mkF m 55 #[iv p0, iv p1, iv p2, iv p3, iv p4, iv p5, iv (4 : Int32), rv b1007, .unset, .unset, .unset] [(.ref b1007)])) _
      refine XS.iloadN X1024.here hx rfl (hb hby at_55) rfl ?_
      exact kt
    obtain ⟨cq1029, kq1029, q1029a, q1029b, q1029c⟩ := isOf hZ e1024 J1024_0
    obtain ⟨_, _, ⟨T1029, L1029, k1029, n1029⟩, -, X1029, ⟨Lc1029, hQ1029, l1029, y1029, z1029⟩, st1029⟩ := X1024.virtualBack hx (y := (⟨"org/reachwatch/IntBlocks", "add", "(I)V"⟩ : MethodName)) (z := (⟨"org/reachwatch/IntBlocks", "add", "(I)V"⟩ : MethodName)) hown (mvT hZ (W 13 rfl)) (mvT hZ (W 14 rfl)) (notFace_of_selects (args := #[]) (mvT hZ (W 16 rfl))) (mvT hZ (W 16 rfl)) (mvT hZ (W 15 rfl)) (by decide) (backOf (W := 0) (rm_add3_3 l Z a0 hw [] b1007 p3 k51_1013 b51_1013 b221_1016 p0 p1 p2 k221_1016 h1024 n0 O1024 g_b1007 g_b221_1016 F1027 J1024_0 J1024_1 J1024_2 J1024_3 J1024_4 (fun q => ne_b1007_b51_1013 q.symm) (fun q => ne_b1007_b221_1016 q.symm) (fun q => ne_b51_1013_b221_1016 q.symm)) hZ (W 17 rfl) (W 2 rfl) (by decide) (by decide)) q1029a q1029c (g := (mkF m 56 #[iv p0, iv p1, iv p2, iv p3, iv p4, iv p5, iv (4 : Int32), rv b1007, .unset, .unset, .unset] [(.int p3), (.ref b1007)])) rfl (by rw [hml]; rfl) (Steps.refl _) (argsL := [(.int p3)]) (rest := []) (lenOf pd_6 rfl) rfl (by show 2 * 0 + _ ≤ _; exact Nat.le_of_eq rfl) (hb hby at_56) (fun _ _ => ⟨rfl, e1024, (by decide : 3 + 0 ≤ _), (by decide : 19 + 0 ≤ _)⟩)
    dsimp only [Pt.U, Pt.locs, Pt.cells, Pt.slots] at X1029 l1029 y1029 z1029 st1029 hQ1029
    replace l1029 := l1029.symm
    replace y1029 : 3 = k1029 := y1029.symm
    replace z1029 : 19 = n1029 := z1029.symm
    subst l1029 y1029 z1029
    obtain ⟨rfl, M1029, Kc1029, O1029, J1029_0, J1029_1, J1029_2, J1029_3, J1029_4⟩ := hQ1029
    obtain ⟨h1029, e1029⟩ : ∃ z, T1029.heap = z := ⟨_, rfl⟩
    rw [e1029] at Kc1029 O1029 J1029_0 J1029_1 J1029_2 J1029_3 J1029_4
    have N1029 := Fr.app N1024 M1029
    have K1029 : Keep h0 h1029 [] := K1024.trans Kc1029 (own_all2 (Or.inr sz_b1007) (Or.inr sz_b221_1016))
    have pre1179 : ∀ t, Steps p.tables e below (T1029.setTop (mkF m 59 #[iv p0, iv p1, iv p2, iv p3, iv p4, iv p5, iv (4 : Int32), rv b1007, .unset, .unset, .unset] [])) t → Steps p.tables e below (s₁.setTop (entryFrame m #[(.int p0), (.int p1), (.int p2), (.int p3), (.int p4), (.int p5)] maxLocals)) t := fun t kt => pre1028 _ (st1029.trans kt)
    have F1180 := F1026.keep Kc1029
    have F1181 := F1027.keep Kc1029 (own_nm2 (fun q => ne_b1007_b51_1013 q.symm) ne_b51_1013_b221_1016)
    have pre1182 : ∀ t, Steps p.tables e below (T1029.setTop (mkF m 67 #[iv p0, iv p1, iv p2, iv p3, iv p4, iv p5, iv (4 : Int32), rv b1007, .unset, .unset, .unset] [(.int ((p5 &&& (2147483647 : Int32)) - ((p5 &&& (2147483647 : Int32)) / (4 : Int32)) * (4 : Int32)))])) t → Steps p.tables e below (s₁.setTop (entryFrame m #[(.int p0), (.int p1), (.int p2), (.int p3), (.int p4), (.int p5)] maxLocals)) t := fun t kt => by
      refine pre1179 _ ?_
      show Steps p.tables e below (T1029.setTop (mkF m 59 #[iv p0, iv p1, iv p2, iv p3, iv p4, iv p5, iv (4 : Int32), rv b1007, .unset, .unset, .unset] [])) _
      refine XS.iload X1029.here hx rfl (hb hby at_59) rfl ?_
      show Steps p.tables e below (T1029.setTop (mkF m 61 #[iv p0, iv p1, iv p2, iv p3, iv p4, iv p5, iv (4 : Int32), rv b1007, .unset, .unset, .unset] [(.int p5)])) _
      refine X1029.ldcInt hx hown (mvT hZ (W 23 rfl)) (g := (mkF m 61 #[iv p0, iv p1, iv p2, iv p3, iv p4, iv p5, iv (4 : Int32), rv b1007, .unset, .unset, .unset] [(.int p5)])) rfl (hb hby at_61) _ ?_
      show Steps p.tables e below (T1029.setTop (mkF m 63 #[iv p0, iv p1, iv p2, iv p3, iv p4, iv p5, iv (4 : Int32), rv b1007, .unset, .unset, .unset] [(.int (2147483647 : Int32)), (.int p5)])) _
      refine XS.iand X1029.here hx rfl (hb hby at_63) rfl ?_
      show Steps p.tables e below (T1029.setTop (mkF m 64 #[iv p0, iv p1, iv p2, iv p3, iv p4, iv p5, iv (4 : Int32), rv b1007, .unset, .unset, .unset] [(.int (p5 &&& (2147483647 : Int32)))])) _
      refine XS.iload X1029.here hx rfl (hb hby at_64) rfl ?_
      show Steps p.tables e below (T1029.setTop (mkF m 66 #[iv p0, iv p1, iv p2, iv p3, iv p4, iv p5, iv (4 : Int32), rv b1007, .unset, .unset, .unset] [(.int (4 : Int32)), (.int (p5 &&& (2147483647 : Int32)))])) _
      refine XS.irem X1029.here hx rfl (hb hby at_66) rfl (by decide) ?_
      exact kt
    rcases own_rem4 p5 with hv1183 | hv1183 | hv1183 | hv1183
    · rw [hv1183] at pre1182
      have pre1184 : ∀ t, Steps p.tables e below (T1029.setTop (mkF m 73 #[iv p0, iv p1, iv p2, iv p3, iv p4, iv p5, iv (4 : Int32), rv b1007, iv (0 : Int32), .unset, .unset] [(.int (0 : Int32)), (.ref b1007)])) t → Steps p.tables e below (s₁.setTop (entryFrame m #[(.int p0), (.int p1), (.int p2), (.int p3), (.int p4), (.int p5)] maxLocals)) t := fun t kt => by
        refine pre1182 _ ?_
        show Steps p.tables e below (T1029.setTop (mkF m 67 #[iv p0, iv p1, iv p2, iv p3, iv p4, iv p5, iv (4 : Int32), rv b1007, .unset, .unset, .unset] [(.int (0 : Int32))])) _
        refine XS.istore X1029.here hx rfl (hb hby at_67) rfl (l' := #[iv p0, iv p1, iv p2, iv p3, iv p4, iv p5, iv (4 : Int32), rv b1007, iv (0 : Int32), .unset, .unset]) rfl ?_
        show Steps p.tables e below (T1029.setTop (mkF m 69 #[iv p0, iv p1, iv p2, iv p3, iv p4, iv p5, iv (4 : Int32), rv b1007, iv (0 : Int32), .unset, .unset] [])) _
        refine XS.aload X1029.here hx rfl (hb hby at_69) rfl rfl ?_
        show Steps p.tables e below (T1029.setTop (mkF m 71 #[iv p0, iv p1, iv p2, iv p3, iv p4, iv p5, iv (4 : Int32), rv b1007, iv (0 : Int32), .unset, .unset] [(.ref b1007)])) _
        refine XS.iload X1029.here hx rfl (hb hby at_71) rfl ?_
        exact kt
      obtain ⟨cq1185, kq1185, q1185a, q1185b, q1185c⟩ := isOf hZ e1029 J1029_0
      obtain ⟨_, _, ⟨T1185, L1185, k1185, n1185⟩, -, X1185, ⟨Lc1185, hQ1185, l1185, y1185, z1185⟩, st1185⟩ := X1029.virtualBack hx (y := (⟨"org/reachwatch/IntBlocks", "get", "(I)I"⟩ : MethodName)) (z := (⟨"org/reachwatch/IntBlocks", "get", "(I)I"⟩ : MethodName)) hown (mvT hZ (W 24 rfl)) (mvT hZ (W 25 rfl)) (notFace_of_selects (args := #[]) (mvT hZ (W 27 rfl))) (mvT hZ (W 27 rfl)) (mvT hZ (W 26 rfl)) (by decide) (backOf (W := 0) (rm_get4_6 l Z a0 hw [] b1007 k51_1013 b51_1013 b221_1016 p0 p1 p2 p3 k221_1016 h1029 n0 O1029 F1181 J1029_1 J1029_3 J1029_4) hZ (W 28 rfl) (W 2 rfl) (by decide) (by decide)) q1185a q1185c (g := (mkF m 73 #[iv p0, iv p1, iv p2, iv p3, iv p4, iv p5, iv (4 : Int32), rv b1007, iv (0 : Int32), .unset, .unset] [(.int (0 : Int32)), (.ref b1007)])) rfl (by rw [hml]; rfl) (Steps.refl _) (argsL := [(.int (0 : Int32))]) (rest := []) (lenOf pd_14 rfl) rfl (by show 2 * 0 + _ ≤ _; exact Nat.le_of_eq rfl) (hb hby at_73) (fun _ _ => ⟨rfl, e1029, (by decide : 3 + 0 ≤ _), (by decide : 19 + 0 ≤ _)⟩)
      dsimp only [Pt.U, Pt.locs, Pt.cells, Pt.slots] at X1185 l1185 y1185 z1185 st1185 hQ1185
      replace l1185 := l1185.symm
      replace y1185 : 3 = k1185 := y1185.symm
      replace z1185 : 19 = n1185 := z1185.symm
      subst l1185 y1185 z1185
      obtain ⟨rfl, M1185, e1185⟩ := hQ1185
      have N1185 := Fr.app N1029 M1185
      have pre1237 : ∀ t, Steps p.tables e below (T1185.setTop (mkF m 76 #[iv p0, iv p1, iv p2, iv p3, iv p4, iv p5, iv (4 : Int32), rv b1007, iv (0 : Int32), .unset, .unset] [(.int p0)])) t → Steps p.tables e below (s₁.setTop (entryFrame m #[(.int p0), (.int p1), (.int p2), (.int p3), (.int p4), (.int p5)] maxLocals)) t := fun t kt => pre1184 _ (st1185.trans kt)
      have pre1238 : ∀ t, Steps p.tables e below (T1185.setTop (mkF m 84 #[iv p0, iv p1, iv p2, iv p3, iv p4, iv p5, iv (4 : Int32), rv b1007, iv (0 : Int32), iv p0, .unset] [(.int (3 : Int32)), (.ref b1007)])) t → Steps p.tables e below (s₁.setTop (entryFrame m #[(.int p0), (.int p1), (.int p2), (.int p3), (.int p4), (.int p5)] maxLocals)) t := fun t kt => by
        refine pre1237 _ ?_
        show Steps p.tables e below (T1185.setTop (mkF m 76 #[iv p0, iv p1, iv p2, iv p3, iv p4, iv p5, iv (4 : Int32), rv b1007, iv (0 : Int32), .unset, .unset] [(.int p0)])) _
        refine XS.istore X1185.here hx rfl (hb hby at_76) rfl (l' := #[iv p0, iv p1, iv p2, iv p3, iv p4, iv p5, iv (4 : Int32), rv b1007, iv (0 : Int32), iv p0, .unset]) rfl ?_
        show Steps p.tables e below (T1185.setTop (mkF m 78 #[iv p0, iv p1, iv p2, iv p3, iv p4, iv p5, iv (4 : Int32), rv b1007, iv (0 : Int32), iv p0, .unset] [])) _
        refine XS.aload X1185.here hx rfl (hb hby at_78) rfl rfl ?_
        show Steps p.tables e below (T1185.setTop (mkF m 80 #[iv p0, iv p1, iv p2, iv p3, iv p4, iv p5, iv (4 : Int32), rv b1007, iv (0 : Int32), iv p0, .unset] [(.ref b1007)])) _
        refine XS.iload X1185.here hx rfl (hb hby at_80) rfl ?_
        show Steps p.tables e below (T1185.setTop (mkF m 82 #[iv p0, iv p1, iv p2, iv p3, iv p4, iv p5, iv (4 : Int32), rv b1007, iv (0 : Int32), iv p0, .unset] [(.int (4 : Int32)), (.ref b1007)])) _
        refine XS.iconst X1185.here hx rfl (hb hby at_82) ?_
        show Steps p.tables e below (T1185.setTop (mkF m 83 #[iv p0, iv p1, iv p2, iv p3, iv p4, iv p5, iv (4 : Int32), rv b1007, iv (0 : Int32), iv p0, .unset] [(.int (1 : Int32)), (.int (4 : Int32)), (.ref b1007)])) _
        refine XS.isub X1185.here hx rfl (hb hby at_83) rfl ?_
        show  Steps p.tables e below (T1185.setTop (mkF m 84 #[iv p0, iv p1, iv p2, iv p3, iv p4, iv p5, iv (4 : Int32), rv b1007, iv (0 : Int32), iv p0, .unset] [(.int ((4 : Int32) - (1 : Int32))), (.ref b1007)])) _
        rw [(by decide : (((4 : Int32) - (1 : Int32)) : Int32) = (3 : Int32))]
        exact kt
      obtain ⟨cq1239, kq1239, q1239a, q1239b, q1239c⟩ := isOf hZ e1185 J1029_0
      obtain ⟨_, _, ⟨T1239, L1239, k1239, n1239⟩, -, X1239, ⟨Lc1239, hQ1239, l1239, y1239, z1239⟩, st1239⟩ := X1185.virtualBack hx (y := (⟨"org/reachwatch/IntBlocks", "get", "(I)I"⟩ : MethodName)) (z := (⟨"org/reachwatch/IntBlocks", "get", "(I)I"⟩ : MethodName)) hown (mvT hZ (W 24 rfl)) (mvT hZ (W 25 rfl)) (notFace_of_selects (args := #[]) (mvT hZ (W 27 rfl))) (mvT hZ (W 27 rfl)) (mvT hZ (W 26 rfl)) (by decide) (backOf (W := 0) (rm_get4_7 l Z a0 hw [] b1007 k51_1013 b51_1013 b221_1016 p0 p1 p2 p3 k221_1016 h1029 n0 O1029 F1181 J1029_1 J1029_3 J1029_4) hZ (W 28 rfl) (W 2 rfl) (by decide) (by decide)) q1239a q1239c (g := (mkF m 84 #[iv p0, iv p1, iv p2, iv p3, iv p4, iv p5, iv (4 : Int32), rv b1007, iv (0 : Int32), iv p0, .unset] [(.int (3 : Int32)), (.ref b1007)])) rfl (by rw [hml]; rfl) (Steps.refl _) (argsL := [(.int (3 : Int32))]) (rest := []) (lenOf pd_14 rfl) rfl (by show 2 * 0 + _ ≤ _; exact Nat.le_of_eq rfl) (hb hby at_84) (fun _ _ => ⟨rfl, e1185, (by decide : 3 + 0 ≤ _), (by decide : 19 + 0 ≤ _)⟩)
      dsimp only [Pt.U, Pt.locs, Pt.cells, Pt.slots] at X1239 l1239 y1239 z1239 st1239 hQ1239
      replace l1239 := l1239.symm
      replace y1239 : 3 = k1239 := y1239.symm
      replace z1239 : 19 = n1239 := z1239.symm
      subst l1239 y1239 z1239
      obtain ⟨rfl, M1239, e1239⟩ := hQ1239
      have N1239 := Fr.app N1185 M1239
      have pre1291 : ∀ t, Steps p.tables e below (T1239.setTop (mkF m 87 #[iv p0, iv p1, iv p2, iv p3, iv p4, iv p5, iv (4 : Int32), rv b1007, iv (0 : Int32), iv p0, .unset] [(.int p3)])) t → Steps p.tables e below (s₁.setTop (entryFrame m #[(.int p0), (.int p1), (.int p2), (.int p3), (.int p4), (.int p5)] maxLocals)) t := fun t kt => pre1238 _ (st1239.trans kt)
      have pre1292 : ∀ t, Steps p.tables e below (T1239.setTop (mkF m 97 #[iv p0, iv p1, iv p2, iv p3, iv p4, iv p5, iv (4 : Int32), rv b1007, iv (0 : Int32), iv p0, iv p3] [(.int p3), (.int p2), (.int p1), (.int p0), (.int (0 : Int32)), (.int p0)])) t → Steps p.tables e below (s₁.setTop (entryFrame m #[(.int p0), (.int p1), (.int p2), (.int p3), (.int p4), (.int p5)] maxLocals)) t := fun t kt => by
        refine pre1291 _ ?_
        show Steps p.tables e below (T1239.setTop (mkF m 87 #[iv p0, iv p1, iv p2, iv p3, iv p4, iv p5, iv (4 : Int32), rv b1007, iv (0 : Int32), iv p0, .unset] [(.int p3)])) _
        refine XS.istore X1239.here hx rfl (hb hby at_87) rfl (l' := #[iv p0, iv p1, iv p2, iv p3, iv p4, iv p5, iv (4 : Int32), rv b1007, iv (0 : Int32), iv p0, iv p3]) rfl ?_
        show Steps p.tables e below (T1239.setTop (mkF m 89 #[iv p0, iv p1, iv p2, iv p3, iv p4, iv p5, iv (4 : Int32), rv b1007, iv (0 : Int32), iv p0, iv p3] [])) _
        refine XS.iload X1239.here hx rfl (hb hby at_89) rfl ?_
        show Steps p.tables e below (T1239.setTop (mkF m 91 #[iv p0, iv p1, iv p2, iv p3, iv p4, iv p5, iv (4 : Int32), rv b1007, iv (0 : Int32), iv p0, iv p3] [(.int p0)])) _
        refine XS.iload X1239.here hx rfl (hb hby at_91) rfl ?_
        show Steps p.tables e below (T1239.setTop (mkF m 93 #[iv p0, iv p1, iv p2, iv p3, iv p4, iv p5, iv (4 : Int32), rv b1007, iv (0 : Int32), iv p0, iv p3] [(.int (0 : Int32)), (.int p0)])) _
        refine XS.iloadN X1239.here hx rfl (hb hby at_93) rfl ?_
        show Steps p.tables e below (T1239.setTop (mkF m 94 #[iv p0, iv p1, iv p2, iv p3, iv p4, iv p5, iv (4 : Int32), rv b1007, iv (0 : Int32), iv p0, iv p3] [(.int p0), (.int (0 : Int32)), (.int p0)])) _
        refine XS.iloadN X1239.here hx rfl (hb hby at_94) rfl ?_
        show Steps p.tables e below (T1239.setTop (mkF m 95 #[iv p0, iv p1, iv p2, iv p3, iv p4, iv p5, iv (4 : Int32), rv b1007, iv (0 : Int32), iv p0, iv p3] [(.int p1), (.int p0), (.int (0 : Int32)), (.int p0)])) _
        refine XS.iloadN X1239.here hx rfl (hb hby at_95) rfl ?_
        show Steps p.tables e below (T1239.setTop (mkF m 96 #[iv p0, iv p1, iv p2, iv p3, iv p4, iv p5, iv (4 : Int32), rv b1007, iv (0 : Int32), iv p0, iv p3] [(.int p2), (.int p1), (.int p0), (.int (0 : Int32)), (.int p0)])) _
        refine XS.iloadN X1239.here hx rfl (hb hby at_96) rfl ?_
        exact kt
      obtain ⟨_, _, ⟨T1293, L1293, k1293, n1293⟩, -, X1293, ⟨Lc1293, hQ1293, l1293, y1293, z1293⟩, st1293⟩ := Jvm.LawKit.callS X1239 hx (y := (⟨"org/reachwatch/IntBlocksGetPinLaw", "ref", "(IIIII)I"⟩ : MethodName)) hown (mvT hZ (W 37 rfl)) (mvT hZ (W 38 rfl)) (mvT hZ (W 39 rfl)) (mvT hZ (W 40 rfl)) (by decide) (backOf (W := 1) (rm_ref7_0 l Z a0 hw [] p0 p1 p2 p3 h1029 n0 O1029) hZ (W 40 rfl) (W 39 rfl) (by decide) (by decide)) (g := (mkF m 97 #[iv p0, iv p1, iv p2, iv p3, iv p4, iv p5, iv (4 : Int32), rv b1007, iv (0 : Int32), iv p0, iv p3] [(.int p3), (.int p2), (.int p1), (.int p0), (.int (0 : Int32)), (.int p0)])) rfl (by rw [hml]; rfl) (argsL := [(.int (0 : Int32)), (.int p0), (.int p1), (.int p2), (.int p3)]) (rest := [(.int p0)]) (lenOf pd_16 rfl) rfl (by show 2 * 0 + _ ≤ _; exact Nat.le_of_eq rfl) (hb hby at_97) (fun _ _ => ⟨rfl, e1239, (by decide : 3 + 0 ≤ _), (by decide : 19 + 0 ≤ _)⟩)
      dsimp only [Pt.U, Pt.locs, Pt.cells, Pt.slots] at X1293 l1293 y1293 z1293 st1293 hQ1293
      replace l1293 := l1293.symm
      replace y1293 : 3 = k1293 := y1293.symm
      replace z1293 : 19 = n1293 := z1293.symm
      subst l1293 y1293 z1293
      obtain ⟨rfl, M1293, e1293⟩ := hQ1293
      have N1293 := Fr.app N1239 M1293
      have pre1294 : ∀ t, Steps p.tables e below (T1293.setTop (mkF m 100 #[iv p0, iv p1, iv p2, iv p3, iv p4, iv p5, iv (4 : Int32), rv b1007, iv (0 : Int32), iv p0, iv p3] [(.int p0), (.int p0)])) t → Steps p.tables e below (s₁.setTop (entryFrame m #[(.int p0), (.int p1), (.int p2), (.int p3), (.int p4), (.int p5)] maxLocals)) t := fun t kt => pre1292 _ (st1293 _ kt)
      have pre1295 : ∀ t, Steps p.tables e below (T1293.setTop (mkF m 113 #[iv p0, iv p1, iv p2, iv p3, iv p4, iv p5, iv (4 : Int32), rv b1007, iv (0 : Int32), iv p0, iv p3] [(.int p3), (.int p2), (.int p1), (.int p0), (.int (3 : Int32)), (.int p3)])) t → Steps p.tables e below (s₁.setTop (entryFrame m #[(.int p0), (.int p1), (.int p2), (.int p3), (.int p4), (.int p5)] maxLocals)) t := fun t kt => by
        refine pre1294 _ ?_
        show Steps p.tables e below (T1293.setTop (mkF m 100 #[iv p0, iv p1, iv p2, iv p3, iv p4, iv p5, iv (4 : Int32), rv b1007, iv (0 : Int32), iv p0, iv p3] [(.int p0), (.int p0)])) _
        refine XS.icmpNo X1293.here hx rfl (hb hby at_100) rfl (XT.ii_ne_f rfl) ?_
        show Steps p.tables e below (T1293.setTop (mkF m 103 #[iv p0, iv p1, iv p2, iv p3, iv p4, iv p5, iv (4 : Int32), rv b1007, iv (0 : Int32), iv p0, iv p3] [])) _
        refine XS.iload X1293.here hx rfl (hb hby at_103) rfl ?_
        show Steps p.tables e below (T1293.setTop (mkF m 105 #[iv p0, iv p1, iv p2, iv p3, iv p4, iv p5, iv (4 : Int32), rv b1007, iv (0 : Int32), iv p0, iv p3] [(.int p3)])) _
        refine XS.iload X1293.here hx rfl (hb hby at_105) rfl ?_
        show Steps p.tables e below (T1293.setTop (mkF m 107 #[iv p0, iv p1, iv p2, iv p3, iv p4, iv p5, iv (4 : Int32), rv b1007, iv (0 : Int32), iv p0, iv p3] [(.int (4 : Int32)), (.int p3)])) _
        refine XS.iconst X1293.here hx rfl (hb hby at_107) ?_
        show Steps p.tables e below (T1293.setTop (mkF m 108 #[iv p0, iv p1, iv p2, iv p3, iv p4, iv p5, iv (4 : Int32), rv b1007, iv (0 : Int32), iv p0, iv p3] [(.int (1 : Int32)), (.int (4 : Int32)), (.int p3)])) _
        refine XS.isub X1293.here hx rfl (hb hby at_108) rfl ?_
        show  Steps p.tables e below (T1293.setTop (mkF m 109 #[iv p0, iv p1, iv p2, iv p3, iv p4, iv p5, iv (4 : Int32), rv b1007, iv (0 : Int32), iv p0, iv p3] [(.int ((4 : Int32) - (1 : Int32))), (.int p3)])) _
        rw [(by decide : (((4 : Int32) - (1 : Int32)) : Int32) = (3 : Int32))]
        show Steps p.tables e below (T1293.setTop (mkF m 109 #[iv p0, iv p1, iv p2, iv p3, iv p4, iv p5, iv (4 : Int32), rv b1007, iv (0 : Int32), iv p0, iv p3] [(.int (3 : Int32)), (.int p3)])) _
        refine XS.iloadN X1293.here hx rfl (hb hby at_109) rfl ?_
        show Steps p.tables e below (T1293.setTop (mkF m 110 #[iv p0, iv p1, iv p2, iv p3, iv p4, iv p5, iv (4 : Int32), rv b1007, iv (0 : Int32), iv p0, iv p3] [(.int p0), (.int (3 : Int32)), (.int p3)])) _
        refine XS.iloadN X1293.here hx rfl (hb hby at_110) rfl ?_
        show Steps p.tables e below (T1293.setTop (mkF m 111 #[iv p0, iv p1, iv p2, iv p3, iv p4, iv p5, iv (4 : Int32), rv b1007, iv (0 : Int32), iv p0, iv p3] [(.int p1), (.int p0), (.int (3 : Int32)), (.int p3)])) _
        refine XS.iloadN X1293.here hx rfl (hb hby at_111) rfl ?_
        show Steps p.tables e below (T1293.setTop (mkF m 112 #[iv p0, iv p1, iv p2, iv p3, iv p4, iv p5, iv (4 : Int32), rv b1007, iv (0 : Int32), iv p0, iv p3] [(.int p2), (.int p1), (.int p0), (.int (3 : Int32)), (.int p3)])) _
        refine XS.iloadN X1293.here hx rfl (hb hby at_112) rfl ?_
        exact kt
      obtain ⟨_, _, ⟨T1296, L1296, k1296, n1296⟩, -, X1296, ⟨Lc1296, hQ1296, l1296, y1296, z1296⟩, st1296⟩ := Jvm.LawKit.callS X1293 hx (y := (⟨"org/reachwatch/IntBlocksGetPinLaw", "ref", "(IIIII)I"⟩ : MethodName)) hown (mvT hZ (W 37 rfl)) (mvT hZ (W 38 rfl)) (mvT hZ (W 39 rfl)) (mvT hZ (W 40 rfl)) (by decide) (backOf (W := 1) (rm_ref7_3 l Z a0 hw [] p0 p1 p2 p3 h1029 n0 O1029) hZ (W 40 rfl) (W 39 rfl) (by decide) (by decide)) (g := (mkF m 113 #[iv p0, iv p1, iv p2, iv p3, iv p4, iv p5, iv (4 : Int32), rv b1007, iv (0 : Int32), iv p0, iv p3] [(.int p3), (.int p2), (.int p1), (.int p0), (.int (3 : Int32)), (.int p3)])) rfl (by rw [hml]; rfl) (argsL := [(.int (3 : Int32)), (.int p0), (.int p1), (.int p2), (.int p3)]) (rest := [(.int p3)]) (lenOf pd_16 rfl) rfl (by show 2 * 0 + _ ≤ _; exact Nat.le_of_eq rfl) (hb hby at_113) (fun _ _ => ⟨rfl, e1293, (by decide : 3 + 0 ≤ _), (by decide : 19 + 0 ≤ _)⟩)
      dsimp only [Pt.U, Pt.locs, Pt.cells, Pt.slots] at X1296 l1296 y1296 z1296 st1296 hQ1296
      replace l1296 := l1296.symm
      replace y1296 : 3 = k1296 := y1296.symm
      replace z1296 : 19 = n1296 := z1296.symm
      subst l1296 y1296 z1296
      obtain ⟨rfl, M1296, e1296⟩ := hQ1296
      have N1296 := Fr.app N1293 M1296
      have pre1300 : ∀ t, Steps p.tables e below (T1296.setTop (mkF m 116 #[iv p0, iv p1, iv p2, iv p3, iv p4, iv p5, iv (4 : Int32), rv b1007, iv (0 : Int32), iv p0, iv p3] [(.int p3), (.int p3)])) t → Steps p.tables e below (s₁.setTop (entryFrame m #[(.int p0), (.int p1), (.int p2), (.int p3), (.int p4), (.int p5)] maxLocals)) t := fun t kt => pre1295 _ (st1296 _ kt)
      have pre1301 : ∀ t, Steps p.tables e below (T1296.setTop (mkF m 124 #[iv p0, iv p1, iv p2, iv p3, iv p4, iv p5, iv (4 : Int32), rv b1007, iv (0 : Int32), iv p0, iv p3] [(.int (1 : Int32))])) t → Steps p.tables e below (s₁.setTop (entryFrame m #[(.int p0), (.int p1), (.int p2), (.int p3), (.int p4), (.int p5)] maxLocals)) t := fun t kt => by
        refine pre1300 _ ?_
        show Steps p.tables e below (T1296.setTop (mkF m 116 #[iv p0, iv p1, iv p2, iv p3, iv p4, iv p5, iv (4 : Int32), rv b1007, iv (0 : Int32), iv p0, iv p3] [(.int p3), (.int p3)])) _
        refine XS.icmpNo X1296.here hx rfl (hb hby at_116) rfl (XT.ii_ne_f rfl) ?_
        show Steps p.tables e below (T1296.setTop (mkF m 119 #[iv p0, iv p1, iv p2, iv p3, iv p4, iv p5, iv (4 : Int32), rv b1007, iv (0 : Int32), iv p0, iv p3] [])) _
        refine XS.iconst X1296.here hx rfl (hb hby at_119) ?_
        show Steps p.tables e below (T1296.setTop (mkF m 120 #[iv p0, iv p1, iv p2, iv p3, iv p4, iv p5, iv (4 : Int32), rv b1007, iv (0 : Int32), iv p0, iv p3] [(.int (1 : Int32))])) _
        refine XS.goto X1296.here hx rfl (pc0 := 120) (pc' := 124) rfl (hb hby at_120) (by decide) (by decide) ?_
        exact kt
      obtain ⟨fs, hr, hrun, hended, hW, hsame⟩ := X1296.leave (v := some (.int (1 : Int32))) (fun h => by rw [Bd.returns] at h; cases h)
      refine ⟨_, _, pre1301 _ (retN X1296 hx (t := .boolean) Bd.returns (by simp) (hb hby at_124) hr), hrun, hended, _, _, rfl, ?_, ⟨_, rfl⟩, hW, hsame.mono (by decide) (by decide)⟩
      show Q_law Z p0 p1 p2 p3 p4 p5 h0 n0 _ T1296.heap _
      rw [e1296]
      exact ⟨rfl, N1296⟩
    · rw [hv1183] at pre1182
      have pre1302 : ∀ t, Steps p.tables e below (T1029.setTop (mkF m 73 #[iv p0, iv p1, iv p2, iv p3, iv p4, iv p5, iv (4 : Int32), rv b1007, iv (1 : Int32), .unset, .unset] [(.int (1 : Int32)), (.ref b1007)])) t → Steps p.tables e below (s₁.setTop (entryFrame m #[(.int p0), (.int p1), (.int p2), (.int p3), (.int p4), (.int p5)] maxLocals)) t := fun t kt => by
        refine pre1182 _ ?_
        show Steps p.tables e below (T1029.setTop (mkF m 67 #[iv p0, iv p1, iv p2, iv p3, iv p4, iv p5, iv (4 : Int32), rv b1007, .unset, .unset, .unset] [(.int (1 : Int32))])) _
        refine XS.istore X1029.here hx rfl (hb hby at_67) rfl (l' := #[iv p0, iv p1, iv p2, iv p3, iv p4, iv p5, iv (4 : Int32), rv b1007, iv (1 : Int32), .unset, .unset]) rfl ?_
        show Steps p.tables e below (T1029.setTop (mkF m 69 #[iv p0, iv p1, iv p2, iv p3, iv p4, iv p5, iv (4 : Int32), rv b1007, iv (1 : Int32), .unset, .unset] [])) _
        refine XS.aload X1029.here hx rfl (hb hby at_69) rfl rfl ?_
        show Steps p.tables e below (T1029.setTop (mkF m 71 #[iv p0, iv p1, iv p2, iv p3, iv p4, iv p5, iv (4 : Int32), rv b1007, iv (1 : Int32), .unset, .unset] [(.ref b1007)])) _
        refine XS.iload X1029.here hx rfl (hb hby at_71) rfl ?_
        exact kt
      obtain ⟨cq1303, kq1303, q1303a, q1303b, q1303c⟩ := isOf hZ e1029 J1029_0
      obtain ⟨_, _, ⟨T1303, L1303, k1303, n1303⟩, -, X1303, ⟨Lc1303, hQ1303, l1303, y1303, z1303⟩, st1303⟩ := X1029.virtualBack hx (y := (⟨"org/reachwatch/IntBlocks", "get", "(I)I"⟩ : MethodName)) (z := (⟨"org/reachwatch/IntBlocks", "get", "(I)I"⟩ : MethodName)) hown (mvT hZ (W 24 rfl)) (mvT hZ (W 25 rfl)) (notFace_of_selects (args := #[]) (mvT hZ (W 27 rfl))) (mvT hZ (W 27 rfl)) (mvT hZ (W 26 rfl)) (by decide) (backOf (W := 0) (rm_get4_8 l Z a0 hw [] b1007 k51_1013 b51_1013 b221_1016 p0 p1 p2 p3 k221_1016 h1029 n0 O1029 F1181 J1029_1 J1029_3 J1029_4) hZ (W 28 rfl) (W 2 rfl) (by decide) (by decide)) q1303a q1303c (g := (mkF m 73 #[iv p0, iv p1, iv p2, iv p3, iv p4, iv p5, iv (4 : Int32), rv b1007, iv (1 : Int32), .unset, .unset] [(.int (1 : Int32)), (.ref b1007)])) rfl (by rw [hml]; rfl) (Steps.refl _) (argsL := [(.int (1 : Int32))]) (rest := []) (lenOf pd_14 rfl) rfl (by show 2 * 0 + _ ≤ _; exact Nat.le_of_eq rfl) (hb hby at_73) (fun _ _ => ⟨rfl, e1029, (by decide : 3 + 0 ≤ _), (by decide : 19 + 0 ≤ _)⟩)
      dsimp only [Pt.U, Pt.locs, Pt.cells, Pt.slots] at X1303 l1303 y1303 z1303 st1303 hQ1303
      replace l1303 := l1303.symm
      replace y1303 : 3 = k1303 := y1303.symm
      replace z1303 : 19 = n1303 := z1303.symm
      subst l1303 y1303 z1303
      obtain ⟨rfl, M1303, e1303⟩ := hQ1303
      have N1303 := Fr.app N1029 M1303
      have pre1355 : ∀ t, Steps p.tables e below (T1303.setTop (mkF m 76 #[iv p0, iv p1, iv p2, iv p3, iv p4, iv p5, iv (4 : Int32), rv b1007, iv (1 : Int32), .unset, .unset] [(.int p1)])) t → Steps p.tables e below (s₁.setTop (entryFrame m #[(.int p0), (.int p1), (.int p2), (.int p3), (.int p4), (.int p5)] maxLocals)) t := fun t kt => pre1302 _ (st1303.trans kt)
      have pre1356 : ∀ t, Steps p.tables e below (T1303.setTop (mkF m 84 #[iv p0, iv p1, iv p2, iv p3, iv p4, iv p5, iv (4 : Int32), rv b1007, iv (1 : Int32), iv p1, .unset] [(.int (3 : Int32)), (.ref b1007)])) t → Steps p.tables e below (s₁.setTop (entryFrame m #[(.int p0), (.int p1), (.int p2), (.int p3), (.int p4), (.int p5)] maxLocals)) t := fun t kt => by
        refine pre1355 _ ?_
        show Steps p.tables e below (T1303.setTop (mkF m 76 #[iv p0, iv p1, iv p2, iv p3, iv p4, iv p5, iv (4 : Int32), rv b1007, iv (1 : Int32), .unset, .unset] [(.int p1)])) _
        refine XS.istore X1303.here hx rfl (hb hby at_76) rfl (l' := #[iv p0, iv p1, iv p2, iv p3, iv p4, iv p5, iv (4 : Int32), rv b1007, iv (1 : Int32), iv p1, .unset]) rfl ?_
        show Steps p.tables e below (T1303.setTop (mkF m 78 #[iv p0, iv p1, iv p2, iv p3, iv p4, iv p5, iv (4 : Int32), rv b1007, iv (1 : Int32), iv p1, .unset] [])) _
        refine XS.aload X1303.here hx rfl (hb hby at_78) rfl rfl ?_
        show Steps p.tables e below (T1303.setTop (mkF m 80 #[iv p0, iv p1, iv p2, iv p3, iv p4, iv p5, iv (4 : Int32), rv b1007, iv (1 : Int32), iv p1, .unset] [(.ref b1007)])) _
        refine XS.iload X1303.here hx rfl (hb hby at_80) rfl ?_
        show Steps p.tables e below (T1303.setTop (mkF m 82 #[iv p0, iv p1, iv p2, iv p3, iv p4, iv p5, iv (4 : Int32), rv b1007, iv (1 : Int32), iv p1, .unset] [(.int (4 : Int32)), (.ref b1007)])) _
        refine XS.iconst X1303.here hx rfl (hb hby at_82) ?_
        show Steps p.tables e below (T1303.setTop (mkF m 83 #[iv p0, iv p1, iv p2, iv p3, iv p4, iv p5, iv (4 : Int32), rv b1007, iv (1 : Int32), iv p1, .unset] [(.int (1 : Int32)), (.int (4 : Int32)), (.ref b1007)])) _
        refine XS.isub X1303.here hx rfl (hb hby at_83) rfl ?_
        show  Steps p.tables e below (T1303.setTop (mkF m 84 #[iv p0, iv p1, iv p2, iv p3, iv p4, iv p5, iv (4 : Int32), rv b1007, iv (1 : Int32), iv p1, .unset] [(.int ((4 : Int32) - (1 : Int32))), (.ref b1007)])) _
        rw [(by decide : (((4 : Int32) - (1 : Int32)) : Int32) = (3 : Int32))]
        exact kt
      obtain ⟨cq1357, kq1357, q1357a, q1357b, q1357c⟩ := isOf hZ e1303 J1029_0
      obtain ⟨_, _, ⟨T1357, L1357, k1357, n1357⟩, -, X1357, ⟨Lc1357, hQ1357, l1357, y1357, z1357⟩, st1357⟩ := X1303.virtualBack hx (y := (⟨"org/reachwatch/IntBlocks", "get", "(I)I"⟩ : MethodName)) (z := (⟨"org/reachwatch/IntBlocks", "get", "(I)I"⟩ : MethodName)) hown (mvT hZ (W 24 rfl)) (mvT hZ (W 25 rfl)) (notFace_of_selects (args := #[]) (mvT hZ (W 27 rfl))) (mvT hZ (W 27 rfl)) (mvT hZ (W 26 rfl)) (by decide) (backOf (W := 0) (rm_get4_7 l Z a0 hw [] b1007 k51_1013 b51_1013 b221_1016 p0 p1 p2 p3 k221_1016 h1029 n0 O1029 F1181 J1029_1 J1029_3 J1029_4) hZ (W 28 rfl) (W 2 rfl) (by decide) (by decide)) q1357a q1357c (g := (mkF m 84 #[iv p0, iv p1, iv p2, iv p3, iv p4, iv p5, iv (4 : Int32), rv b1007, iv (1 : Int32), iv p1, .unset] [(.int (3 : Int32)), (.ref b1007)])) rfl (by rw [hml]; rfl) (Steps.refl _) (argsL := [(.int (3 : Int32))]) (rest := []) (lenOf pd_14 rfl) rfl (by show 2 * 0 + _ ≤ _; exact Nat.le_of_eq rfl) (hb hby at_84) (fun _ _ => ⟨rfl, e1303, (by decide : 3 + 0 ≤ _), (by decide : 19 + 0 ≤ _)⟩)
      dsimp only [Pt.U, Pt.locs, Pt.cells, Pt.slots] at X1357 l1357 y1357 z1357 st1357 hQ1357
      replace l1357 := l1357.symm
      replace y1357 : 3 = k1357 := y1357.symm
      replace z1357 : 19 = n1357 := z1357.symm
      subst l1357 y1357 z1357
      obtain ⟨rfl, M1357, e1357⟩ := hQ1357
      have N1357 := Fr.app N1303 M1357
      have pre1358 : ∀ t, Steps p.tables e below (T1357.setTop (mkF m 87 #[iv p0, iv p1, iv p2, iv p3, iv p4, iv p5, iv (4 : Int32), rv b1007, iv (1 : Int32), iv p1, .unset] [(.int p3)])) t → Steps p.tables e below (s₁.setTop (entryFrame m #[(.int p0), (.int p1), (.int p2), (.int p3), (.int p4), (.int p5)] maxLocals)) t := fun t kt => pre1356 _ (st1357.trans kt)
      have pre1359 : ∀ t, Steps p.tables e below (T1357.setTop (mkF m 97 #[iv p0, iv p1, iv p2, iv p3, iv p4, iv p5, iv (4 : Int32), rv b1007, iv (1 : Int32), iv p1, iv p3] [(.int p3), (.int p2), (.int p1), (.int p0), (.int (1 : Int32)), (.int p1)])) t → Steps p.tables e below (s₁.setTop (entryFrame m #[(.int p0), (.int p1), (.int p2), (.int p3), (.int p4), (.int p5)] maxLocals)) t := fun t kt => by
        refine pre1358 _ ?_
        show Steps p.tables e below (T1357.setTop (mkF m 87 #[iv p0, iv p1, iv p2, iv p3, iv p4, iv p5, iv (4 : Int32), rv b1007, iv (1 : Int32), iv p1, .unset] [(.int p3)])) _
        refine XS.istore X1357.here hx rfl (hb hby at_87) rfl (l' := #[iv p0, iv p1, iv p2, iv p3, iv p4, iv p5, iv (4 : Int32), rv b1007, iv (1 : Int32), iv p1, iv p3]) rfl ?_
        show Steps p.tables e below (T1357.setTop (mkF m 89 #[iv p0, iv p1, iv p2, iv p3, iv p4, iv p5, iv (4 : Int32), rv b1007, iv (1 : Int32), iv p1, iv p3] [])) _
        refine XS.iload X1357.here hx rfl (hb hby at_89) rfl ?_
        show Steps p.tables e below (T1357.setTop (mkF m 91 #[iv p0, iv p1, iv p2, iv p3, iv p4, iv p5, iv (4 : Int32), rv b1007, iv (1 : Int32), iv p1, iv p3] [(.int p1)])) _
        refine XS.iload X1357.here hx rfl (hb hby at_91) rfl ?_
        show Steps p.tables e below (T1357.setTop (mkF m 93 #[iv p0, iv p1, iv p2, iv p3, iv p4, iv p5, iv (4 : Int32), rv b1007, iv (1 : Int32), iv p1, iv p3] [(.int (1 : Int32)), (.int p1)])) _
        refine XS.iloadN X1357.here hx rfl (hb hby at_93) rfl ?_
        show Steps p.tables e below (T1357.setTop (mkF m 94 #[iv p0, iv p1, iv p2, iv p3, iv p4, iv p5, iv (4 : Int32), rv b1007, iv (1 : Int32), iv p1, iv p3] [(.int p0), (.int (1 : Int32)), (.int p1)])) _
        refine XS.iloadN X1357.here hx rfl (hb hby at_94) rfl ?_
        show Steps p.tables e below (T1357.setTop (mkF m 95 #[iv p0, iv p1, iv p2, iv p3, iv p4, iv p5, iv (4 : Int32), rv b1007, iv (1 : Int32), iv p1, iv p3] [(.int p1), (.int p0), (.int (1 : Int32)), (.int p1)])) _
        refine XS.iloadN X1357.here hx rfl (hb hby at_95) rfl ?_
        show Steps p.tables e below (T1357.setTop (mkF m 96 #[iv p0, iv p1, iv p2, iv p3, iv p4, iv p5, iv (4 : Int32), rv b1007, iv (1 : Int32), iv p1, iv p3] [(.int p2), (.int p1), (.int p0), (.int (1 : Int32)), (.int p1)])) _
        refine XS.iloadN X1357.here hx rfl (hb hby at_96) rfl ?_
        exact kt
      obtain ⟨_, _, ⟨T1360, L1360, k1360, n1360⟩, -, X1360, ⟨Lc1360, hQ1360, l1360, y1360, z1360⟩, st1360⟩ := Jvm.LawKit.callS X1357 hx (y := (⟨"org/reachwatch/IntBlocksGetPinLaw", "ref", "(IIIII)I"⟩ : MethodName)) hown (mvT hZ (W 37 rfl)) (mvT hZ (W 38 rfl)) (mvT hZ (W 39 rfl)) (mvT hZ (W 40 rfl)) (by decide) (backOf (W := 1) (rm_ref7_1 l Z a0 hw [] p0 p1 p2 p3 h1029 n0 O1029) hZ (W 40 rfl) (W 39 rfl) (by decide) (by decide)) (g := (mkF m 97 #[iv p0, iv p1, iv p2, iv p3, iv p4, iv p5, iv (4 : Int32), rv b1007, iv (1 : Int32), iv p1, iv p3] [(.int p3), (.int p2), (.int p1), (.int p0), (.int (1 : Int32)), (.int p1)])) rfl (by rw [hml]; rfl) (argsL := [(.int (1 : Int32)), (.int p0), (.int p1), (.int p2), (.int p3)]) (rest := [(.int p1)]) (lenOf pd_16 rfl) rfl (by show 2 * 0 + _ ≤ _; exact Nat.le_of_eq rfl) (hb hby at_97) (fun _ _ => ⟨rfl, e1357, (by decide : 3 + 0 ≤ _), (by decide : 19 + 0 ≤ _)⟩)
      dsimp only [Pt.U, Pt.locs, Pt.cells, Pt.slots] at X1360 l1360 y1360 z1360 st1360 hQ1360
      replace l1360 := l1360.symm
      replace y1360 : 3 = k1360 := y1360.symm
      replace z1360 : 19 = n1360 := z1360.symm
      subst l1360 y1360 z1360
      obtain ⟨rfl, M1360, e1360⟩ := hQ1360
      have N1360 := Fr.app N1357 M1360
      have pre1361 : ∀ t, Steps p.tables e below (T1360.setTop (mkF m 100 #[iv p0, iv p1, iv p2, iv p3, iv p4, iv p5, iv (4 : Int32), rv b1007, iv (1 : Int32), iv p1, iv p3] [(.int p1), (.int p1)])) t → Steps p.tables e below (s₁.setTop (entryFrame m #[(.int p0), (.int p1), (.int p2), (.int p3), (.int p4), (.int p5)] maxLocals)) t := fun t kt => pre1359 _ (st1360 _ kt)
      have pre1362 : ∀ t, Steps p.tables e below (T1360.setTop (mkF m 113 #[iv p0, iv p1, iv p2, iv p3, iv p4, iv p5, iv (4 : Int32), rv b1007, iv (1 : Int32), iv p1, iv p3] [(.int p3), (.int p2), (.int p1), (.int p0), (.int (3 : Int32)), (.int p3)])) t → Steps p.tables e below (s₁.setTop (entryFrame m #[(.int p0), (.int p1), (.int p2), (.int p3), (.int p4), (.int p5)] maxLocals)) t := fun t kt => by
        refine pre1361 _ ?_
        show Steps p.tables e below (T1360.setTop (mkF m 100 #[iv p0, iv p1, iv p2, iv p3, iv p4, iv p5, iv (4 : Int32), rv b1007, iv (1 : Int32), iv p1, iv p3] [(.int p1), (.int p1)])) _
        refine XS.icmpNo X1360.here hx rfl (hb hby at_100) rfl (XT.ii_ne_f rfl) ?_
        show Steps p.tables e below (T1360.setTop (mkF m 103 #[iv p0, iv p1, iv p2, iv p3, iv p4, iv p5, iv (4 : Int32), rv b1007, iv (1 : Int32), iv p1, iv p3] [])) _
        refine XS.iload X1360.here hx rfl (hb hby at_103) rfl ?_
        show Steps p.tables e below (T1360.setTop (mkF m 105 #[iv p0, iv p1, iv p2, iv p3, iv p4, iv p5, iv (4 : Int32), rv b1007, iv (1 : Int32), iv p1, iv p3] [(.int p3)])) _
        refine XS.iload X1360.here hx rfl (hb hby at_105) rfl ?_
        show Steps p.tables e below (T1360.setTop (mkF m 107 #[iv p0, iv p1, iv p2, iv p3, iv p4, iv p5, iv (4 : Int32), rv b1007, iv (1 : Int32), iv p1, iv p3] [(.int (4 : Int32)), (.int p3)])) _
        refine XS.iconst X1360.here hx rfl (hb hby at_107) ?_
        show Steps p.tables e below (T1360.setTop (mkF m 108 #[iv p0, iv p1, iv p2, iv p3, iv p4, iv p5, iv (4 : Int32), rv b1007, iv (1 : Int32), iv p1, iv p3] [(.int (1 : Int32)), (.int (4 : Int32)), (.int p3)])) _
        refine XS.isub X1360.here hx rfl (hb hby at_108) rfl ?_
        show  Steps p.tables e below (T1360.setTop (mkF m 109 #[iv p0, iv p1, iv p2, iv p3, iv p4, iv p5, iv (4 : Int32), rv b1007, iv (1 : Int32), iv p1, iv p3] [(.int ((4 : Int32) - (1 : Int32))), (.int p3)])) _
        rw [(by decide : (((4 : Int32) - (1 : Int32)) : Int32) = (3 : Int32))]
        show Steps p.tables e below (T1360.setTop (mkF m 109 #[iv p0, iv p1, iv p2, iv p3, iv p4, iv p5, iv (4 : Int32), rv b1007, iv (1 : Int32), iv p1, iv p3] [(.int (3 : Int32)), (.int p3)])) _
        refine XS.iloadN X1360.here hx rfl (hb hby at_109) rfl ?_
        show Steps p.tables e below (T1360.setTop (mkF m 110 #[iv p0, iv p1, iv p2, iv p3, iv p4, iv p5, iv (4 : Int32), rv b1007, iv (1 : Int32), iv p1, iv p3] [(.int p0), (.int (3 : Int32)), (.int p3)])) _
        refine XS.iloadN X1360.here hx rfl (hb hby at_110) rfl ?_
        show Steps p.tables e below (T1360.setTop (mkF m 111 #[iv p0, iv p1, iv p2, iv p3, iv p4, iv p5, iv (4 : Int32), rv b1007, iv (1 : Int32), iv p1, iv p3] [(.int p1), (.int p0), (.int (3 : Int32)), (.int p3)])) _
        refine XS.iloadN X1360.here hx rfl (hb hby at_111) rfl ?_
        show Steps p.tables e below (T1360.setTop (mkF m 112 #[iv p0, iv p1, iv p2, iv p3, iv p4, iv p5, iv (4 : Int32), rv b1007, iv (1 : Int32), iv p1, iv p3] [(.int p2), (.int p1), (.int p0), (.int (3 : Int32)), (.int p3)])) _
        refine XS.iloadN X1360.here hx rfl (hb hby at_112) rfl ?_
        exact kt
      obtain ⟨_, _, ⟨T1363, L1363, k1363, n1363⟩, -, X1363, ⟨Lc1363, hQ1363, l1363, y1363, z1363⟩, st1363⟩ := Jvm.LawKit.callS X1360 hx (y := (⟨"org/reachwatch/IntBlocksGetPinLaw", "ref", "(IIIII)I"⟩ : MethodName)) hown (mvT hZ (W 37 rfl)) (mvT hZ (W 38 rfl)) (mvT hZ (W 39 rfl)) (mvT hZ (W 40 rfl)) (by decide) (backOf (W := 1) (rm_ref7_3 l Z a0 hw [] p0 p1 p2 p3 h1029 n0 O1029) hZ (W 40 rfl) (W 39 rfl) (by decide) (by decide)) (g := (mkF m 113 #[iv p0, iv p1, iv p2, iv p3, iv p4, iv p5, iv (4 : Int32), rv b1007, iv (1 : Int32), iv p1, iv p3] [(.int p3), (.int p2), (.int p1), (.int p0), (.int (3 : Int32)), (.int p3)])) rfl (by rw [hml]; rfl) (argsL := [(.int (3 : Int32)), (.int p0), (.int p1), (.int p2), (.int p3)]) (rest := [(.int p3)]) (lenOf pd_16 rfl) rfl (by show 2 * 0 + _ ≤ _; exact Nat.le_of_eq rfl) (hb hby at_113) (fun _ _ => ⟨rfl, e1360, (by decide : 3 + 0 ≤ _), (by decide : 19 + 0 ≤ _)⟩)
      dsimp only [Pt.U, Pt.locs, Pt.cells, Pt.slots] at X1363 l1363 y1363 z1363 st1363 hQ1363
      replace l1363 := l1363.symm
      replace y1363 : 3 = k1363 := y1363.symm
      replace z1363 : 19 = n1363 := z1363.symm
      subst l1363 y1363 z1363
      obtain ⟨rfl, M1363, e1363⟩ := hQ1363
      have N1363 := Fr.app N1360 M1363
      have pre1364 : ∀ t, Steps p.tables e below (T1363.setTop (mkF m 116 #[iv p0, iv p1, iv p2, iv p3, iv p4, iv p5, iv (4 : Int32), rv b1007, iv (1 : Int32), iv p1, iv p3] [(.int p3), (.int p3)])) t → Steps p.tables e below (s₁.setTop (entryFrame m #[(.int p0), (.int p1), (.int p2), (.int p3), (.int p4), (.int p5)] maxLocals)) t := fun t kt => pre1362 _ (st1363 _ kt)
      have pre1365 : ∀ t, Steps p.tables e below (T1363.setTop (mkF m 124 #[iv p0, iv p1, iv p2, iv p3, iv p4, iv p5, iv (4 : Int32), rv b1007, iv (1 : Int32), iv p1, iv p3] [(.int (1 : Int32))])) t → Steps p.tables e below (s₁.setTop (entryFrame m #[(.int p0), (.int p1), (.int p2), (.int p3), (.int p4), (.int p5)] maxLocals)) t := fun t kt => by
        refine pre1364 _ ?_
        show Steps p.tables e below (T1363.setTop (mkF m 116 #[iv p0, iv p1, iv p2, iv p3, iv p4, iv p5, iv (4 : Int32), rv b1007, iv (1 : Int32), iv p1, iv p3] [(.int p3), (.int p3)])) _
        refine XS.icmpNo X1363.here hx rfl (hb hby at_116) rfl (XT.ii_ne_f rfl) ?_
        show Steps p.tables e below (T1363.setTop (mkF m 119 #[iv p0, iv p1, iv p2, iv p3, iv p4, iv p5, iv (4 : Int32), rv b1007, iv (1 : Int32), iv p1, iv p3] [])) _
        refine XS.iconst X1363.here hx rfl (hb hby at_119) ?_
        show Steps p.tables e below (T1363.setTop (mkF m 120 #[iv p0, iv p1, iv p2, iv p3, iv p4, iv p5, iv (4 : Int32), rv b1007, iv (1 : Int32), iv p1, iv p3] [(.int (1 : Int32))])) _
        refine XS.goto X1363.here hx rfl (pc0 := 120) (pc' := 124) rfl (hb hby at_120) (by decide) (by decide) ?_
        exact kt
      obtain ⟨fs, hr, hrun, hended, hW, hsame⟩ := X1363.leave (v := some (.int (1 : Int32))) (fun h => by rw [Bd.returns] at h; cases h)
      refine ⟨_, _, pre1365 _ (retN X1363 hx (t := .boolean) Bd.returns (by simp) (hb hby at_124) hr), hrun, hended, _, _, rfl, ?_, ⟨_, rfl⟩, hW, hsame.mono (by decide) (by decide)⟩
      show Q_law Z p0 p1 p2 p3 p4 p5 h0 n0 _ T1363.heap _
      rw [e1363]
      exact ⟨rfl, N1363⟩
    · rw [hv1183] at pre1182
      have pre1366 : ∀ t, Steps p.tables e below (T1029.setTop (mkF m 73 #[iv p0, iv p1, iv p2, iv p3, iv p4, iv p5, iv (4 : Int32), rv b1007, iv (2 : Int32), .unset, .unset] [(.int (2 : Int32)), (.ref b1007)])) t → Steps p.tables e below (s₁.setTop (entryFrame m #[(.int p0), (.int p1), (.int p2), (.int p3), (.int p4), (.int p5)] maxLocals)) t := fun t kt => by
        refine pre1182 _ ?_
        show Steps p.tables e below (T1029.setTop (mkF m 67 #[iv p0, iv p1, iv p2, iv p3, iv p4, iv p5, iv (4 : Int32), rv b1007, .unset, .unset, .unset] [(.int (2 : Int32))])) _
        refine XS.istore X1029.here hx rfl (hb hby at_67) rfl (l' := #[iv p0, iv p1, iv p2, iv p3, iv p4, iv p5, iv (4 : Int32), rv b1007, iv (2 : Int32), .unset, .unset]) rfl ?_
        show Steps p.tables e below (T1029.setTop (mkF m 69 #[iv p0, iv p1, iv p2, iv p3, iv p4, iv p5, iv (4 : Int32), rv b1007, iv (2 : Int32), .unset, .unset] [])) _
        refine XS.aload X1029.here hx rfl (hb hby at_69) rfl rfl ?_
        show Steps p.tables e below (T1029.setTop (mkF m 71 #[iv p0, iv p1, iv p2, iv p3, iv p4, iv p5, iv (4 : Int32), rv b1007, iv (2 : Int32), .unset, .unset] [(.ref b1007)])) _
        refine XS.iload X1029.here hx rfl (hb hby at_71) rfl ?_
        exact kt
      obtain ⟨cq1367, kq1367, q1367a, q1367b, q1367c⟩ := isOf hZ e1029 J1029_0
      obtain ⟨_, _, ⟨T1367, L1367, k1367, n1367⟩, -, X1367, ⟨Lc1367, hQ1367, l1367, y1367, z1367⟩, st1367⟩ := X1029.virtualBack hx (y := (⟨"org/reachwatch/IntBlocks", "get", "(I)I"⟩ : MethodName)) (z := (⟨"org/reachwatch/IntBlocks", "get", "(I)I"⟩ : MethodName)) hown (mvT hZ (W 24 rfl)) (mvT hZ (W 25 rfl)) (notFace_of_selects (args := #[]) (mvT hZ (W 27 rfl))) (mvT hZ (W 27 rfl)) (mvT hZ (W 26 rfl)) (by decide) (backOf (W := 0) (rm_get4_9 l Z a0 hw [] b1007 k51_1013 b51_1013 b221_1016 p0 p1 p2 p3 k221_1016 h1029 n0 O1029 F1181 J1029_1 J1029_3 J1029_4) hZ (W 28 rfl) (W 2 rfl) (by decide) (by decide)) q1367a q1367c (g := (mkF m 73 #[iv p0, iv p1, iv p2, iv p3, iv p4, iv p5, iv (4 : Int32), rv b1007, iv (2 : Int32), .unset, .unset] [(.int (2 : Int32)), (.ref b1007)])) rfl (by rw [hml]; rfl) (Steps.refl _) (argsL := [(.int (2 : Int32))]) (rest := []) (lenOf pd_14 rfl) rfl (by show 2 * 0 + _ ≤ _; exact Nat.le_of_eq rfl) (hb hby at_73) (fun _ _ => ⟨rfl, e1029, (by decide : 3 + 0 ≤ _), (by decide : 19 + 0 ≤ _)⟩)
      dsimp only [Pt.U, Pt.locs, Pt.cells, Pt.slots] at X1367 l1367 y1367 z1367 st1367 hQ1367
      replace l1367 := l1367.symm
      replace y1367 : 3 = k1367 := y1367.symm
      replace z1367 : 19 = n1367 := z1367.symm
      subst l1367 y1367 z1367
      obtain ⟨rfl, M1367, e1367⟩ := hQ1367
      have N1367 := Fr.app N1029 M1367
      have pre1419 : ∀ t, Steps p.tables e below (T1367.setTop (mkF m 76 #[iv p0, iv p1, iv p2, iv p3, iv p4, iv p5, iv (4 : Int32), rv b1007, iv (2 : Int32), .unset, .unset] [(.int p2)])) t → Steps p.tables e below (s₁.setTop (entryFrame m #[(.int p0), (.int p1), (.int p2), (.int p3), (.int p4), (.int p5)] maxLocals)) t := fun t kt => pre1366 _ (st1367.trans kt)
      have pre1420 : ∀ t, Steps p.tables e below (T1367.setTop (mkF m 84 #[iv p0, iv p1, iv p2, iv p3, iv p4, iv p5, iv (4 : Int32), rv b1007, iv (2 : Int32), iv p2, .unset] [(.int (3 : Int32)), (.ref b1007)])) t → Steps p.tables e below (s₁.setTop (entryFrame m #[(.int p0), (.int p1), (.int p2), (.int p3), (.int p4), (.int p5)] maxLocals)) t := fun t kt => by
        refine pre1419 _ ?_
        show Steps p.tables e below (T1367.setTop (mkF m 76 #[iv p0, iv p1, iv p2, iv p3, iv p4, iv p5, iv (4 : Int32), rv b1007, iv (2 : Int32), .unset, .unset] [(.int p2)])) _
        refine XS.istore X1367.here hx rfl (hb hby at_76) rfl (l' := #[iv p0, iv p1, iv p2, iv p3, iv p4, iv p5, iv (4 : Int32), rv b1007, iv (2 : Int32), iv p2, .unset]) rfl ?_
        show Steps p.tables e below (T1367.setTop (mkF m 78 #[iv p0, iv p1, iv p2, iv p3, iv p4, iv p5, iv (4 : Int32), rv b1007, iv (2 : Int32), iv p2, .unset] [])) _
        refine XS.aload X1367.here hx rfl (hb hby at_78) rfl rfl ?_
        show Steps p.tables e below (T1367.setTop (mkF m 80 #[iv p0, iv p1, iv p2, iv p3, iv p4, iv p5, iv (4 : Int32), rv b1007, iv (2 : Int32), iv p2, .unset] [(.ref b1007)])) _
        refine XS.iload X1367.here hx rfl (hb hby at_80) rfl ?_
        show Steps p.tables e below (T1367.setTop (mkF m 82 #[iv p0, iv p1, iv p2, iv p3, iv p4, iv p5, iv (4 : Int32), rv b1007, iv (2 : Int32), iv p2, .unset] [(.int (4 : Int32)), (.ref b1007)])) _
        refine XS.iconst X1367.here hx rfl (hb hby at_82) ?_
        show Steps p.tables e below (T1367.setTop (mkF m 83 #[iv p0, iv p1, iv p2, iv p3, iv p4, iv p5, iv (4 : Int32), rv b1007, iv (2 : Int32), iv p2, .unset] [(.int (1 : Int32)), (.int (4 : Int32)), (.ref b1007)])) _
        refine XS.isub X1367.here hx rfl (hb hby at_83) rfl ?_
        show  Steps p.tables e below (T1367.setTop (mkF m 84 #[iv p0, iv p1, iv p2, iv p3, iv p4, iv p5, iv (4 : Int32), rv b1007, iv (2 : Int32), iv p2, .unset] [(.int ((4 : Int32) - (1 : Int32))), (.ref b1007)])) _
        rw [(by decide : (((4 : Int32) - (1 : Int32)) : Int32) = (3 : Int32))]
        exact kt
      obtain ⟨cq1421, kq1421, q1421a, q1421b, q1421c⟩ := isOf hZ e1367 J1029_0
      obtain ⟨_, _, ⟨T1421, L1421, k1421, n1421⟩, -, X1421, ⟨Lc1421, hQ1421, l1421, y1421, z1421⟩, st1421⟩ := X1367.virtualBack hx (y := (⟨"org/reachwatch/IntBlocks", "get", "(I)I"⟩ : MethodName)) (z := (⟨"org/reachwatch/IntBlocks", "get", "(I)I"⟩ : MethodName)) hown (mvT hZ (W 24 rfl)) (mvT hZ (W 25 rfl)) (notFace_of_selects (args := #[]) (mvT hZ (W 27 rfl))) (mvT hZ (W 27 rfl)) (mvT hZ (W 26 rfl)) (by decide) (backOf (W := 0) (rm_get4_7 l Z a0 hw [] b1007 k51_1013 b51_1013 b221_1016 p0 p1 p2 p3 k221_1016 h1029 n0 O1029 F1181 J1029_1 J1029_3 J1029_4) hZ (W 28 rfl) (W 2 rfl) (by decide) (by decide)) q1421a q1421c (g := (mkF m 84 #[iv p0, iv p1, iv p2, iv p3, iv p4, iv p5, iv (4 : Int32), rv b1007, iv (2 : Int32), iv p2, .unset] [(.int (3 : Int32)), (.ref b1007)])) rfl (by rw [hml]; rfl) (Steps.refl _) (argsL := [(.int (3 : Int32))]) (rest := []) (lenOf pd_14 rfl) rfl (by show 2 * 0 + _ ≤ _; exact Nat.le_of_eq rfl) (hb hby at_84) (fun _ _ => ⟨rfl, e1367, (by decide : 3 + 0 ≤ _), (by decide : 19 + 0 ≤ _)⟩)
      dsimp only [Pt.U, Pt.locs, Pt.cells, Pt.slots] at X1421 l1421 y1421 z1421 st1421 hQ1421
      replace l1421 := l1421.symm
      replace y1421 : 3 = k1421 := y1421.symm
      replace z1421 : 19 = n1421 := z1421.symm
      subst l1421 y1421 z1421
      obtain ⟨rfl, M1421, e1421⟩ := hQ1421
      have N1421 := Fr.app N1367 M1421
      have pre1422 : ∀ t, Steps p.tables e below (T1421.setTop (mkF m 87 #[iv p0, iv p1, iv p2, iv p3, iv p4, iv p5, iv (4 : Int32), rv b1007, iv (2 : Int32), iv p2, .unset] [(.int p3)])) t → Steps p.tables e below (s₁.setTop (entryFrame m #[(.int p0), (.int p1), (.int p2), (.int p3), (.int p4), (.int p5)] maxLocals)) t := fun t kt => pre1420 _ (st1421.trans kt)
      have pre1423 : ∀ t, Steps p.tables e below (T1421.setTop (mkF m 97 #[iv p0, iv p1, iv p2, iv p3, iv p4, iv p5, iv (4 : Int32), rv b1007, iv (2 : Int32), iv p2, iv p3] [(.int p3), (.int p2), (.int p1), (.int p0), (.int (2 : Int32)), (.int p2)])) t → Steps p.tables e below (s₁.setTop (entryFrame m #[(.int p0), (.int p1), (.int p2), (.int p3), (.int p4), (.int p5)] maxLocals)) t := fun t kt => by
        refine pre1422 _ ?_
        show Steps p.tables e below (T1421.setTop (mkF m 87 #[iv p0, iv p1, iv p2, iv p3, iv p4, iv p5, iv (4 : Int32), rv b1007, iv (2 : Int32), iv p2, .unset] [(.int p3)])) _
        refine XS.istore X1421.here hx rfl (hb hby at_87) rfl (l' := #[iv p0, iv p1, iv p2, iv p3, iv p4, iv p5, iv (4 : Int32), rv b1007, iv (2 : Int32), iv p2, iv p3]) rfl ?_
        show Steps p.tables e below (T1421.setTop (mkF m 89 #[iv p0, iv p1, iv p2, iv p3, iv p4, iv p5, iv (4 : Int32), rv b1007, iv (2 : Int32), iv p2, iv p3] [])) _
        refine XS.iload X1421.here hx rfl (hb hby at_89) rfl ?_
        show Steps p.tables e below (T1421.setTop (mkF m 91 #[iv p0, iv p1, iv p2, iv p3, iv p4, iv p5, iv (4 : Int32), rv b1007, iv (2 : Int32), iv p2, iv p3] [(.int p2)])) _
        refine XS.iload X1421.here hx rfl (hb hby at_91) rfl ?_
        show Steps p.tables e below (T1421.setTop (mkF m 93 #[iv p0, iv p1, iv p2, iv p3, iv p4, iv p5, iv (4 : Int32), rv b1007, iv (2 : Int32), iv p2, iv p3] [(.int (2 : Int32)), (.int p2)])) _
        refine XS.iloadN X1421.here hx rfl (hb hby at_93) rfl ?_
        show Steps p.tables e below (T1421.setTop (mkF m 94 #[iv p0, iv p1, iv p2, iv p3, iv p4, iv p5, iv (4 : Int32), rv b1007, iv (2 : Int32), iv p2, iv p3] [(.int p0), (.int (2 : Int32)), (.int p2)])) _
        refine XS.iloadN X1421.here hx rfl (hb hby at_94) rfl ?_
        show Steps p.tables e below (T1421.setTop (mkF m 95 #[iv p0, iv p1, iv p2, iv p3, iv p4, iv p5, iv (4 : Int32), rv b1007, iv (2 : Int32), iv p2, iv p3] [(.int p1), (.int p0), (.int (2 : Int32)), (.int p2)])) _
        refine XS.iloadN X1421.here hx rfl (hb hby at_95) rfl ?_
        show Steps p.tables e below (T1421.setTop (mkF m 96 #[iv p0, iv p1, iv p2, iv p3, iv p4, iv p5, iv (4 : Int32), rv b1007, iv (2 : Int32), iv p2, iv p3] [(.int p2), (.int p1), (.int p0), (.int (2 : Int32)), (.int p2)])) _
        refine XS.iloadN X1421.here hx rfl (hb hby at_96) rfl ?_
        exact kt
      obtain ⟨_, _, ⟨T1424, L1424, k1424, n1424⟩, -, X1424, ⟨Lc1424, hQ1424, l1424, y1424, z1424⟩, st1424⟩ := Jvm.LawKit.callS X1421 hx (y := (⟨"org/reachwatch/IntBlocksGetPinLaw", "ref", "(IIIII)I"⟩ : MethodName)) hown (mvT hZ (W 37 rfl)) (mvT hZ (W 38 rfl)) (mvT hZ (W 39 rfl)) (mvT hZ (W 40 rfl)) (by decide) (backOf (W := 1) (rm_ref7_2 l Z a0 hw [] p0 p1 p2 p3 h1029 n0 O1029) hZ (W 40 rfl) (W 39 rfl) (by decide) (by decide)) (g := (mkF m 97 #[iv p0, iv p1, iv p2, iv p3, iv p4, iv p5, iv (4 : Int32), rv b1007, iv (2 : Int32), iv p2, iv p3] [(.int p3), (.int p2), (.int p1), (.int p0), (.int (2 : Int32)), (.int p2)])) rfl (by rw [hml]; rfl) (argsL := [(.int (2 : Int32)), (.int p0), (.int p1), (.int p2), (.int p3)]) (rest := [(.int p2)]) (lenOf pd_16 rfl) rfl (by show 2 * 0 + _ ≤ _; exact Nat.le_of_eq rfl) (hb hby at_97) (fun _ _ => ⟨rfl, e1421, (by decide : 3 + 0 ≤ _), (by decide : 19 + 0 ≤ _)⟩)
      dsimp only [Pt.U, Pt.locs, Pt.cells, Pt.slots] at X1424 l1424 y1424 z1424 st1424 hQ1424
      replace l1424 := l1424.symm
      replace y1424 : 3 = k1424 := y1424.symm
      replace z1424 : 19 = n1424 := z1424.symm
      subst l1424 y1424 z1424
      obtain ⟨rfl, M1424, e1424⟩ := hQ1424
      have N1424 := Fr.app N1421 M1424
      have pre1425 : ∀ t, Steps p.tables e below (T1424.setTop (mkF m 100 #[iv p0, iv p1, iv p2, iv p3, iv p4, iv p5, iv (4 : Int32), rv b1007, iv (2 : Int32), iv p2, iv p3] [(.int p2), (.int p2)])) t → Steps p.tables e below (s₁.setTop (entryFrame m #[(.int p0), (.int p1), (.int p2), (.int p3), (.int p4), (.int p5)] maxLocals)) t := fun t kt => pre1423 _ (st1424 _ kt)
      have pre1426 : ∀ t, Steps p.tables e below (T1424.setTop (mkF m 113 #[iv p0, iv p1, iv p2, iv p3, iv p4, iv p5, iv (4 : Int32), rv b1007, iv (2 : Int32), iv p2, iv p3] [(.int p3), (.int p2), (.int p1), (.int p0), (.int (3 : Int32)), (.int p3)])) t → Steps p.tables e below (s₁.setTop (entryFrame m #[(.int p0), (.int p1), (.int p2), (.int p3), (.int p4), (.int p5)] maxLocals)) t := fun t kt => by
        refine pre1425 _ ?_
        show Steps p.tables e below (T1424.setTop (mkF m 100 #[iv p0, iv p1, iv p2, iv p3, iv p4, iv p5, iv (4 : Int32), rv b1007, iv (2 : Int32), iv p2, iv p3] [(.int p2), (.int p2)])) _
        refine XS.icmpNo X1424.here hx rfl (hb hby at_100) rfl (XT.ii_ne_f rfl) ?_
        show Steps p.tables e below (T1424.setTop (mkF m 103 #[iv p0, iv p1, iv p2, iv p3, iv p4, iv p5, iv (4 : Int32), rv b1007, iv (2 : Int32), iv p2, iv p3] [])) _
        refine XS.iload X1424.here hx rfl (hb hby at_103) rfl ?_
        show Steps p.tables e below (T1424.setTop (mkF m 105 #[iv p0, iv p1, iv p2, iv p3, iv p4, iv p5, iv (4 : Int32), rv b1007, iv (2 : Int32), iv p2, iv p3] [(.int p3)])) _
        refine XS.iload X1424.here hx rfl (hb hby at_105) rfl ?_
        show Steps p.tables e below (T1424.setTop (mkF m 107 #[iv p0, iv p1, iv p2, iv p3, iv p4, iv p5, iv (4 : Int32), rv b1007, iv (2 : Int32), iv p2, iv p3] [(.int (4 : Int32)), (.int p3)])) _
        refine XS.iconst X1424.here hx rfl (hb hby at_107) ?_
        show Steps p.tables e below (T1424.setTop (mkF m 108 #[iv p0, iv p1, iv p2, iv p3, iv p4, iv p5, iv (4 : Int32), rv b1007, iv (2 : Int32), iv p2, iv p3] [(.int (1 : Int32)), (.int (4 : Int32)), (.int p3)])) _
        refine XS.isub X1424.here hx rfl (hb hby at_108) rfl ?_
        show  Steps p.tables e below (T1424.setTop (mkF m 109 #[iv p0, iv p1, iv p2, iv p3, iv p4, iv p5, iv (4 : Int32), rv b1007, iv (2 : Int32), iv p2, iv p3] [(.int ((4 : Int32) - (1 : Int32))), (.int p3)])) _
        rw [(by decide : (((4 : Int32) - (1 : Int32)) : Int32) = (3 : Int32))]
        show Steps p.tables e below (T1424.setTop (mkF m 109 #[iv p0, iv p1, iv p2, iv p3, iv p4, iv p5, iv (4 : Int32), rv b1007, iv (2 : Int32), iv p2, iv p3] [(.int (3 : Int32)), (.int p3)])) _
        refine XS.iloadN X1424.here hx rfl (hb hby at_109) rfl ?_
        show Steps p.tables e below (T1424.setTop (mkF m 110 #[iv p0, iv p1, iv p2, iv p3, iv p4, iv p5, iv (4 : Int32), rv b1007, iv (2 : Int32), iv p2, iv p3] [(.int p0), (.int (3 : Int32)), (.int p3)])) _
        refine XS.iloadN X1424.here hx rfl (hb hby at_110) rfl ?_
        show Steps p.tables e below (T1424.setTop (mkF m 111 #[iv p0, iv p1, iv p2, iv p3, iv p4, iv p5, iv (4 : Int32), rv b1007, iv (2 : Int32), iv p2, iv p3] [(.int p1), (.int p0), (.int (3 : Int32)), (.int p3)])) _
        refine XS.iloadN X1424.here hx rfl (hb hby at_111) rfl ?_
        show Steps p.tables e below (T1424.setTop (mkF m 112 #[iv p0, iv p1, iv p2, iv p3, iv p4, iv p5, iv (4 : Int32), rv b1007, iv (2 : Int32), iv p2, iv p3] [(.int p2), (.int p1), (.int p0), (.int (3 : Int32)), (.int p3)])) _
        refine XS.iloadN X1424.here hx rfl (hb hby at_112) rfl ?_
        exact kt
      obtain ⟨_, _, ⟨T1427, L1427, k1427, n1427⟩, -, X1427, ⟨Lc1427, hQ1427, l1427, y1427, z1427⟩, st1427⟩ := Jvm.LawKit.callS X1424 hx (y := (⟨"org/reachwatch/IntBlocksGetPinLaw", "ref", "(IIIII)I"⟩ : MethodName)) hown (mvT hZ (W 37 rfl)) (mvT hZ (W 38 rfl)) (mvT hZ (W 39 rfl)) (mvT hZ (W 40 rfl)) (by decide) (backOf (W := 1) (rm_ref7_3 l Z a0 hw [] p0 p1 p2 p3 h1029 n0 O1029) hZ (W 40 rfl) (W 39 rfl) (by decide) (by decide)) (g := (mkF m 113 #[iv p0, iv p1, iv p2, iv p3, iv p4, iv p5, iv (4 : Int32), rv b1007, iv (2 : Int32), iv p2, iv p3] [(.int p3), (.int p2), (.int p1), (.int p0), (.int (3 : Int32)), (.int p3)])) rfl (by rw [hml]; rfl) (argsL := [(.int (3 : Int32)), (.int p0), (.int p1), (.int p2), (.int p3)]) (rest := [(.int p3)]) (lenOf pd_16 rfl) rfl (by show 2 * 0 + _ ≤ _; exact Nat.le_of_eq rfl) (hb hby at_113) (fun _ _ => ⟨rfl, e1424, (by decide : 3 + 0 ≤ _), (by decide : 19 + 0 ≤ _)⟩)
      dsimp only [Pt.U, Pt.locs, Pt.cells, Pt.slots] at X1427 l1427 y1427 z1427 st1427 hQ1427
      replace l1427 := l1427.symm
      replace y1427 : 3 = k1427 := y1427.symm
      replace z1427 : 19 = n1427 := z1427.symm
      subst l1427 y1427 z1427
      obtain ⟨rfl, M1427, e1427⟩ := hQ1427
      have N1427 := Fr.app N1424 M1427
      have pre1428 : ∀ t, Steps p.tables e below (T1427.setTop (mkF m 116 #[iv p0, iv p1, iv p2, iv p3, iv p4, iv p5, iv (4 : Int32), rv b1007, iv (2 : Int32), iv p2, iv p3] [(.int p3), (.int p3)])) t → Steps p.tables e below (s₁.setTop (entryFrame m #[(.int p0), (.int p1), (.int p2), (.int p3), (.int p4), (.int p5)] maxLocals)) t := fun t kt => pre1426 _ (st1427 _ kt)
      have pre1429 : ∀ t, Steps p.tables e below (T1427.setTop (mkF m 124 #[iv p0, iv p1, iv p2, iv p3, iv p4, iv p5, iv (4 : Int32), rv b1007, iv (2 : Int32), iv p2, iv p3] [(.int (1 : Int32))])) t → Steps p.tables e below (s₁.setTop (entryFrame m #[(.int p0), (.int p1), (.int p2), (.int p3), (.int p4), (.int p5)] maxLocals)) t := fun t kt => by
        refine pre1428 _ ?_
        show Steps p.tables e below (T1427.setTop (mkF m 116 #[iv p0, iv p1, iv p2, iv p3, iv p4, iv p5, iv (4 : Int32), rv b1007, iv (2 : Int32), iv p2, iv p3] [(.int p3), (.int p3)])) _
        refine XS.icmpNo X1427.here hx rfl (hb hby at_116) rfl (XT.ii_ne_f rfl) ?_
        show Steps p.tables e below (T1427.setTop (mkF m 119 #[iv p0, iv p1, iv p2, iv p3, iv p4, iv p5, iv (4 : Int32), rv b1007, iv (2 : Int32), iv p2, iv p3] [])) _
        refine XS.iconst X1427.here hx rfl (hb hby at_119) ?_
        show Steps p.tables e below (T1427.setTop (mkF m 120 #[iv p0, iv p1, iv p2, iv p3, iv p4, iv p5, iv (4 : Int32), rv b1007, iv (2 : Int32), iv p2, iv p3] [(.int (1 : Int32))])) _
        refine XS.goto X1427.here hx rfl (pc0 := 120) (pc' := 124) rfl (hb hby at_120) (by decide) (by decide) ?_
        exact kt
      obtain ⟨fs, hr, hrun, hended, hW, hsame⟩ := X1427.leave (v := some (.int (1 : Int32))) (fun h => by rw [Bd.returns] at h; cases h)
      refine ⟨_, _, pre1429 _ (retN X1427 hx (t := .boolean) Bd.returns (by simp) (hb hby at_124) hr), hrun, hended, _, _, rfl, ?_, ⟨_, rfl⟩, hW, hsame.mono (by decide) (by decide)⟩
      show Q_law Z p0 p1 p2 p3 p4 p5 h0 n0 _ T1427.heap _
      rw [e1427]
      exact ⟨rfl, N1427⟩
    · rw [hv1183] at pre1182
      have pre1430 : ∀ t, Steps p.tables e below (T1029.setTop (mkF m 73 #[iv p0, iv p1, iv p2, iv p3, iv p4, iv p5, iv (4 : Int32), rv b1007, iv (3 : Int32), .unset, .unset] [(.int (3 : Int32)), (.ref b1007)])) t → Steps p.tables e below (s₁.setTop (entryFrame m #[(.int p0), (.int p1), (.int p2), (.int p3), (.int p4), (.int p5)] maxLocals)) t := fun t kt => by
        refine pre1182 _ ?_
        show Steps p.tables e below (T1029.setTop (mkF m 67 #[iv p0, iv p1, iv p2, iv p3, iv p4, iv p5, iv (4 : Int32), rv b1007, .unset, .unset, .unset] [(.int (3 : Int32))])) _
        refine XS.istore X1029.here hx rfl (hb hby at_67) rfl (l' := #[iv p0, iv p1, iv p2, iv p3, iv p4, iv p5, iv (4 : Int32), rv b1007, iv (3 : Int32), .unset, .unset]) rfl ?_
        show Steps p.tables e below (T1029.setTop (mkF m 69 #[iv p0, iv p1, iv p2, iv p3, iv p4, iv p5, iv (4 : Int32), rv b1007, iv (3 : Int32), .unset, .unset] [])) _
        refine XS.aload X1029.here hx rfl (hb hby at_69) rfl rfl ?_
        show Steps p.tables e below (T1029.setTop (mkF m 71 #[iv p0, iv p1, iv p2, iv p3, iv p4, iv p5, iv (4 : Int32), rv b1007, iv (3 : Int32), .unset, .unset] [(.ref b1007)])) _
        refine XS.iload X1029.here hx rfl (hb hby at_71) rfl ?_
        exact kt
      obtain ⟨cq1431, kq1431, q1431a, q1431b, q1431c⟩ := isOf hZ e1029 J1029_0
      obtain ⟨_, _, ⟨T1431, L1431, k1431, n1431⟩, -, X1431, ⟨Lc1431, hQ1431, l1431, y1431, z1431⟩, st1431⟩ := X1029.virtualBack hx (y := (⟨"org/reachwatch/IntBlocks", "get", "(I)I"⟩ : MethodName)) (z := (⟨"org/reachwatch/IntBlocks", "get", "(I)I"⟩ : MethodName)) hown (mvT hZ (W 24 rfl)) (mvT hZ (W 25 rfl)) (notFace_of_selects (args := #[]) (mvT hZ (W 27 rfl))) (mvT hZ (W 27 rfl)) (mvT hZ (W 26 rfl)) (by decide) (backOf (W := 0) (rm_get4_7 l Z a0 hw [] b1007 k51_1013 b51_1013 b221_1016 p0 p1 p2 p3 k221_1016 h1029 n0 O1029 F1181 J1029_1 J1029_3 J1029_4) hZ (W 28 rfl) (W 2 rfl) (by decide) (by decide)) q1431a q1431c (g := (mkF m 73 #[iv p0, iv p1, iv p2, iv p3, iv p4, iv p5, iv (4 : Int32), rv b1007, iv (3 : Int32), .unset, .unset] [(.int (3 : Int32)), (.ref b1007)])) rfl (by rw [hml]; rfl) (Steps.refl _) (argsL := [(.int (3 : Int32))]) (rest := []) (lenOf pd_14 rfl) rfl (by show 2 * 0 + _ ≤ _; exact Nat.le_of_eq rfl) (hb hby at_73) (fun _ _ => ⟨rfl, e1029, (by decide : 3 + 0 ≤ _), (by decide : 19 + 0 ≤ _)⟩)
      dsimp only [Pt.U, Pt.locs, Pt.cells, Pt.slots] at X1431 l1431 y1431 z1431 st1431 hQ1431
      replace l1431 := l1431.symm
      replace y1431 : 3 = k1431 := y1431.symm
      replace z1431 : 19 = n1431 := z1431.symm
      subst l1431 y1431 z1431
      obtain ⟨rfl, M1431, e1431⟩ := hQ1431
      have N1431 := Fr.app N1029 M1431
      have pre1432 : ∀ t, Steps p.tables e below (T1431.setTop (mkF m 76 #[iv p0, iv p1, iv p2, iv p3, iv p4, iv p5, iv (4 : Int32), rv b1007, iv (3 : Int32), .unset, .unset] [(.int p3)])) t → Steps p.tables e below (s₁.setTop (entryFrame m #[(.int p0), (.int p1), (.int p2), (.int p3), (.int p4), (.int p5)] maxLocals)) t := fun t kt => pre1430 _ (st1431.trans kt)
      have pre1433 : ∀ t, Steps p.tables e below (T1431.setTop (mkF m 84 #[iv p0, iv p1, iv p2, iv p3, iv p4, iv p5, iv (4 : Int32), rv b1007, iv (3 : Int32), iv p3, .unset] [(.int (3 : Int32)), (.ref b1007)])) t → Steps p.tables e below (s₁.setTop (entryFrame m #[(.int p0), (.int p1), (.int p2), (.int p3), (.int p4), (.int p5)] maxLocals)) t := fun t kt => by
        refine pre1432 _ ?_
        show Steps p.tables e below (T1431.setTop (mkF m 76 #[iv p0, iv p1, iv p2, iv p3, iv p4, iv p5, iv (4 : Int32), rv b1007, iv (3 : Int32), .unset, .unset] [(.int p3)])) _
        refine XS.istore X1431.here hx rfl (hb hby at_76) rfl (l' := #[iv p0, iv p1, iv p2, iv p3, iv p4, iv p5, iv (4 : Int32), rv b1007, iv (3 : Int32), iv p3, .unset]) rfl ?_
        show Steps p.tables e below (T1431.setTop (mkF m 78 #[iv p0, iv p1, iv p2, iv p3, iv p4, iv p5, iv (4 : Int32), rv b1007, iv (3 : Int32), iv p3, .unset] [])) _
        refine XS.aload X1431.here hx rfl (hb hby at_78) rfl rfl ?_
        show Steps p.tables e below (T1431.setTop (mkF m 80 #[iv p0, iv p1, iv p2, iv p3, iv p4, iv p5, iv (4 : Int32), rv b1007, iv (3 : Int32), iv p3, .unset] [(.ref b1007)])) _
        refine XS.iload X1431.here hx rfl (hb hby at_80) rfl ?_
        show Steps p.tables e below (T1431.setTop (mkF m 82 #[iv p0, iv p1, iv p2, iv p3, iv p4, iv p5, iv (4 : Int32), rv b1007, iv (3 : Int32), iv p3, .unset] [(.int (4 : Int32)), (.ref b1007)])) _
        refine XS.iconst X1431.here hx rfl (hb hby at_82) ?_
        show Steps p.tables e below (T1431.setTop (mkF m 83 #[iv p0, iv p1, iv p2, iv p3, iv p4, iv p5, iv (4 : Int32), rv b1007, iv (3 : Int32), iv p3, .unset] [(.int (1 : Int32)), (.int (4 : Int32)), (.ref b1007)])) _
        refine XS.isub X1431.here hx rfl (hb hby at_83) rfl ?_
        show  Steps p.tables e below (T1431.setTop (mkF m 84 #[iv p0, iv p1, iv p2, iv p3, iv p4, iv p5, iv (4 : Int32), rv b1007, iv (3 : Int32), iv p3, .unset] [(.int ((4 : Int32) - (1 : Int32))), (.ref b1007)])) _
        rw [(by decide : (((4 : Int32) - (1 : Int32)) : Int32) = (3 : Int32))]
        exact kt
      obtain ⟨cq1434, kq1434, q1434a, q1434b, q1434c⟩ := isOf hZ e1431 J1029_0
      obtain ⟨_, _, ⟨T1434, L1434, k1434, n1434⟩, -, X1434, ⟨Lc1434, hQ1434, l1434, y1434, z1434⟩, st1434⟩ := X1431.virtualBack hx (y := (⟨"org/reachwatch/IntBlocks", "get", "(I)I"⟩ : MethodName)) (z := (⟨"org/reachwatch/IntBlocks", "get", "(I)I"⟩ : MethodName)) hown (mvT hZ (W 24 rfl)) (mvT hZ (W 25 rfl)) (notFace_of_selects (args := #[]) (mvT hZ (W 27 rfl))) (mvT hZ (W 27 rfl)) (mvT hZ (W 26 rfl)) (by decide) (backOf (W := 0) (rm_get4_7 l Z a0 hw [] b1007 k51_1013 b51_1013 b221_1016 p0 p1 p2 p3 k221_1016 h1029 n0 O1029 F1181 J1029_1 J1029_3 J1029_4) hZ (W 28 rfl) (W 2 rfl) (by decide) (by decide)) q1434a q1434c (g := (mkF m 84 #[iv p0, iv p1, iv p2, iv p3, iv p4, iv p5, iv (4 : Int32), rv b1007, iv (3 : Int32), iv p3, .unset] [(.int (3 : Int32)), (.ref b1007)])) rfl (by rw [hml]; rfl) (Steps.refl _) (argsL := [(.int (3 : Int32))]) (rest := []) (lenOf pd_14 rfl) rfl (by show 2 * 0 + _ ≤ _; exact Nat.le_of_eq rfl) (hb hby at_84) (fun _ _ => ⟨rfl, e1431, (by decide : 3 + 0 ≤ _), (by decide : 19 + 0 ≤ _)⟩)
      dsimp only [Pt.U, Pt.locs, Pt.cells, Pt.slots] at X1434 l1434 y1434 z1434 st1434 hQ1434
      replace l1434 := l1434.symm
      replace y1434 : 3 = k1434 := y1434.symm
      replace z1434 : 19 = n1434 := z1434.symm
      subst l1434 y1434 z1434
      obtain ⟨rfl, M1434, e1434⟩ := hQ1434
      have N1434 := Fr.app N1431 M1434
      have pre1435 : ∀ t, Steps p.tables e below (T1434.setTop (mkF m 87 #[iv p0, iv p1, iv p2, iv p3, iv p4, iv p5, iv (4 : Int32), rv b1007, iv (3 : Int32), iv p3, .unset] [(.int p3)])) t → Steps p.tables e below (s₁.setTop (entryFrame m #[(.int p0), (.int p1), (.int p2), (.int p3), (.int p4), (.int p5)] maxLocals)) t := fun t kt => pre1433 _ (st1434.trans kt)
      have pre1436 : ∀ t, Steps p.tables e below (T1434.setTop (mkF m 97 #[iv p0, iv p1, iv p2, iv p3, iv p4, iv p5, iv (4 : Int32), rv b1007, iv (3 : Int32), iv p3, iv p3] [(.int p3), (.int p2), (.int p1), (.int p0), (.int (3 : Int32)), (.int p3)])) t → Steps p.tables e below (s₁.setTop (entryFrame m #[(.int p0), (.int p1), (.int p2), (.int p3), (.int p4), (.int p5)] maxLocals)) t := fun t kt => by
        refine pre1435 _ ?_
        show Steps p.tables e below (T1434.setTop (mkF m 87 #[iv p0, iv p1, iv p2, iv p3, iv p4, iv p5, iv (4 : Int32), rv b1007, iv (3 : Int32), iv p3, .unset] [(.int p3)])) _
        refine XS.istore X1434.here hx rfl (hb hby at_87) rfl (l' := #[iv p0, iv p1, iv p2, iv p3, iv p4, iv p5, iv (4 : Int32), rv b1007, iv (3 : Int32), iv p3, iv p3]) rfl ?_
        show Steps p.tables e below (T1434.setTop (mkF m 89 #[iv p0, iv p1, iv p2, iv p3, iv p4, iv p5, iv (4 : Int32), rv b1007, iv (3 : Int32), iv p3, iv p3] [])) _
        refine XS.iload X1434.here hx rfl (hb hby at_89) rfl ?_
        show Steps p.tables e below (T1434.setTop (mkF m 91 #[iv p0, iv p1, iv p2, iv p3, iv p4, iv p5, iv (4 : Int32), rv b1007, iv (3 : Int32), iv p3, iv p3] [(.int p3)])) _
        refine XS.iload X1434.here hx rfl (hb hby at_91) rfl ?_
        show Steps p.tables e below (T1434.setTop (mkF m 93 #[iv p0, iv p1, iv p2, iv p3, iv p4, iv p5, iv (4 : Int32), rv b1007, iv (3 : Int32), iv p3, iv p3] [(.int (3 : Int32)), (.int p3)])) _
        refine XS.iloadN X1434.here hx rfl (hb hby at_93) rfl ?_
        show Steps p.tables e below (T1434.setTop (mkF m 94 #[iv p0, iv p1, iv p2, iv p3, iv p4, iv p5, iv (4 : Int32), rv b1007, iv (3 : Int32), iv p3, iv p3] [(.int p0), (.int (3 : Int32)), (.int p3)])) _
        refine XS.iloadN X1434.here hx rfl (hb hby at_94) rfl ?_
        show Steps p.tables e below (T1434.setTop (mkF m 95 #[iv p0, iv p1, iv p2, iv p3, iv p4, iv p5, iv (4 : Int32), rv b1007, iv (3 : Int32), iv p3, iv p3] [(.int p1), (.int p0), (.int (3 : Int32)), (.int p3)])) _
        refine XS.iloadN X1434.here hx rfl (hb hby at_95) rfl ?_
        show Steps p.tables e below (T1434.setTop (mkF m 96 #[iv p0, iv p1, iv p2, iv p3, iv p4, iv p5, iv (4 : Int32), rv b1007, iv (3 : Int32), iv p3, iv p3] [(.int p2), (.int p1), (.int p0), (.int (3 : Int32)), (.int p3)])) _
        refine XS.iloadN X1434.here hx rfl (hb hby at_96) rfl ?_
        exact kt
      obtain ⟨_, _, ⟨T1437, L1437, k1437, n1437⟩, -, X1437, ⟨Lc1437, hQ1437, l1437, y1437, z1437⟩, st1437⟩ := Jvm.LawKit.callS X1434 hx (y := (⟨"org/reachwatch/IntBlocksGetPinLaw", "ref", "(IIIII)I"⟩ : MethodName)) hown (mvT hZ (W 37 rfl)) (mvT hZ (W 38 rfl)) (mvT hZ (W 39 rfl)) (mvT hZ (W 40 rfl)) (by decide) (backOf (W := 1) (rm_ref7_3 l Z a0 hw [] p0 p1 p2 p3 h1029 n0 O1029) hZ (W 40 rfl) (W 39 rfl) (by decide) (by decide)) (g := (mkF m 97 #[iv p0, iv p1, iv p2, iv p3, iv p4, iv p5, iv (4 : Int32), rv b1007, iv (3 : Int32), iv p3, iv p3] [(.int p3), (.int p2), (.int p1), (.int p0), (.int (3 : Int32)), (.int p3)])) rfl (by rw [hml]; rfl) (argsL := [(.int (3 : Int32)), (.int p0), (.int p1), (.int p2), (.int p3)]) (rest := [(.int p3)]) (lenOf pd_16 rfl) rfl (by show 2 * 0 + _ ≤ _; exact Nat.le_of_eq rfl) (hb hby at_97) (fun _ _ => ⟨rfl, e1434, (by decide : 3 + 0 ≤ _), (by decide : 19 + 0 ≤ _)⟩)
      dsimp only [Pt.U, Pt.locs, Pt.cells, Pt.slots] at X1437 l1437 y1437 z1437 st1437 hQ1437
      replace l1437 := l1437.symm
      replace y1437 : 3 = k1437 := y1437.symm
      replace z1437 : 19 = n1437 := z1437.symm
      subst l1437 y1437 z1437
      obtain ⟨rfl, M1437, e1437⟩ := hQ1437
      have N1437 := Fr.app N1434 M1437
      have pre1438 : ∀ t, Steps p.tables e below (T1437.setTop (mkF m 100 #[iv p0, iv p1, iv p2, iv p3, iv p4, iv p5, iv (4 : Int32), rv b1007, iv (3 : Int32), iv p3, iv p3] [(.int p3), (.int p3)])) t → Steps p.tables e below (s₁.setTop (entryFrame m #[(.int p0), (.int p1), (.int p2), (.int p3), (.int p4), (.int p5)] maxLocals)) t := fun t kt => pre1436 _ (st1437 _ kt)
      have pre1439 : ∀ t, Steps p.tables e below (T1437.setTop (mkF m 113 #[iv p0, iv p1, iv p2, iv p3, iv p4, iv p5, iv (4 : Int32), rv b1007, iv (3 : Int32), iv p3, iv p3] [(.int p3), (.int p2), (.int p1), (.int p0), (.int (3 : Int32)), (.int p3)])) t → Steps p.tables e below (s₁.setTop (entryFrame m #[(.int p0), (.int p1), (.int p2), (.int p3), (.int p4), (.int p5)] maxLocals)) t := fun t kt => by
        refine pre1438 _ ?_
        show Steps p.tables e below (T1437.setTop (mkF m 100 #[iv p0, iv p1, iv p2, iv p3, iv p4, iv p5, iv (4 : Int32), rv b1007, iv (3 : Int32), iv p3, iv p3] [(.int p3), (.int p3)])) _
        refine XS.icmpNo X1437.here hx rfl (hb hby at_100) rfl (XT.ii_ne_f rfl) ?_
        show Steps p.tables e below (T1437.setTop (mkF m 103 #[iv p0, iv p1, iv p2, iv p3, iv p4, iv p5, iv (4 : Int32), rv b1007, iv (3 : Int32), iv p3, iv p3] [])) _
        refine XS.iload X1437.here hx rfl (hb hby at_103) rfl ?_
        show Steps p.tables e below (T1437.setTop (mkF m 105 #[iv p0, iv p1, iv p2, iv p3, iv p4, iv p5, iv (4 : Int32), rv b1007, iv (3 : Int32), iv p3, iv p3] [(.int p3)])) _
        refine XS.iload X1437.here hx rfl (hb hby at_105) rfl ?_
        show Steps p.tables e below (T1437.setTop (mkF m 107 #[iv p0, iv p1, iv p2, iv p3, iv p4, iv p5, iv (4 : Int32), rv b1007, iv (3 : Int32), iv p3, iv p3] [(.int (4 : Int32)), (.int p3)])) _
        refine XS.iconst X1437.here hx rfl (hb hby at_107) ?_
        show Steps p.tables e below (T1437.setTop (mkF m 108 #[iv p0, iv p1, iv p2, iv p3, iv p4, iv p5, iv (4 : Int32), rv b1007, iv (3 : Int32), iv p3, iv p3] [(.int (1 : Int32)), (.int (4 : Int32)), (.int p3)])) _
        refine XS.isub X1437.here hx rfl (hb hby at_108) rfl ?_
        show  Steps p.tables e below (T1437.setTop (mkF m 109 #[iv p0, iv p1, iv p2, iv p3, iv p4, iv p5, iv (4 : Int32), rv b1007, iv (3 : Int32), iv p3, iv p3] [(.int ((4 : Int32) - (1 : Int32))), (.int p3)])) _
        rw [(by decide : (((4 : Int32) - (1 : Int32)) : Int32) = (3 : Int32))]
        show Steps p.tables e below (T1437.setTop (mkF m 109 #[iv p0, iv p1, iv p2, iv p3, iv p4, iv p5, iv (4 : Int32), rv b1007, iv (3 : Int32), iv p3, iv p3] [(.int (3 : Int32)), (.int p3)])) _
        refine XS.iloadN X1437.here hx rfl (hb hby at_109) rfl ?_
        show Steps p.tables e below (T1437.setTop (mkF m 110 #[iv p0, iv p1, iv p2, iv p3, iv p4, iv p5, iv (4 : Int32), rv b1007, iv (3 : Int32), iv p3, iv p3] [(.int p0), (.int (3 : Int32)), (.int p3)])) _
        refine XS.iloadN X1437.here hx rfl (hb hby at_110) rfl ?_
        show Steps p.tables e below (T1437.setTop (mkF m 111 #[iv p0, iv p1, iv p2, iv p3, iv p4, iv p5, iv (4 : Int32), rv b1007, iv (3 : Int32), iv p3, iv p3] [(.int p1), (.int p0), (.int (3 : Int32)), (.int p3)])) _
        refine XS.iloadN X1437.here hx rfl (hb hby at_111) rfl ?_
        show Steps p.tables e below (T1437.setTop (mkF m 112 #[iv p0, iv p1, iv p2, iv p3, iv p4, iv p5, iv (4 : Int32), rv b1007, iv (3 : Int32), iv p3, iv p3] [(.int p2), (.int p1), (.int p0), (.int (3 : Int32)), (.int p3)])) _
        refine XS.iloadN X1437.here hx rfl (hb hby at_112) rfl ?_
        exact kt
      obtain ⟨_, _, ⟨T1440, L1440, k1440, n1440⟩, -, X1440, ⟨Lc1440, hQ1440, l1440, y1440, z1440⟩, st1440⟩ := Jvm.LawKit.callS X1437 hx (y := (⟨"org/reachwatch/IntBlocksGetPinLaw", "ref", "(IIIII)I"⟩ : MethodName)) hown (mvT hZ (W 37 rfl)) (mvT hZ (W 38 rfl)) (mvT hZ (W 39 rfl)) (mvT hZ (W 40 rfl)) (by decide) (backOf (W := 1) (rm_ref7_3 l Z a0 hw [] p0 p1 p2 p3 h1029 n0 O1029) hZ (W 40 rfl) (W 39 rfl) (by decide) (by decide)) (g := (mkF m 113 #[iv p0, iv p1, iv p2, iv p3, iv p4, iv p5, iv (4 : Int32), rv b1007, iv (3 : Int32), iv p3, iv p3] [(.int p3), (.int p2), (.int p1), (.int p0), (.int (3 : Int32)), (.int p3)])) rfl (by rw [hml]; rfl) (argsL := [(.int (3 : Int32)), (.int p0), (.int p1), (.int p2), (.int p3)]) (rest := [(.int p3)]) (lenOf pd_16 rfl) rfl (by show 2 * 0 + _ ≤ _; exact Nat.le_of_eq rfl) (hb hby at_113) (fun _ _ => ⟨rfl, e1437, (by decide : 3 + 0 ≤ _), (by decide : 19 + 0 ≤ _)⟩)
      dsimp only [Pt.U, Pt.locs, Pt.cells, Pt.slots] at X1440 l1440 y1440 z1440 st1440 hQ1440
      replace l1440 := l1440.symm
      replace y1440 : 3 = k1440 := y1440.symm
      replace z1440 : 19 = n1440 := z1440.symm
      subst l1440 y1440 z1440
      obtain ⟨rfl, M1440, e1440⟩ := hQ1440
      have N1440 := Fr.app N1437 M1440
      have pre1441 : ∀ t, Steps p.tables e below (T1440.setTop (mkF m 116 #[iv p0, iv p1, iv p2, iv p3, iv p4, iv p5, iv (4 : Int32), rv b1007, iv (3 : Int32), iv p3, iv p3] [(.int p3), (.int p3)])) t → Steps p.tables e below (s₁.setTop (entryFrame m #[(.int p0), (.int p1), (.int p2), (.int p3), (.int p4), (.int p5)] maxLocals)) t := fun t kt => pre1439 _ (st1440 _ kt)
      have pre1442 : ∀ t, Steps p.tables e below (T1440.setTop (mkF m 124 #[iv p0, iv p1, iv p2, iv p3, iv p4, iv p5, iv (4 : Int32), rv b1007, iv (3 : Int32), iv p3, iv p3] [(.int (1 : Int32))])) t → Steps p.tables e below (s₁.setTop (entryFrame m #[(.int p0), (.int p1), (.int p2), (.int p3), (.int p4), (.int p5)] maxLocals)) t := fun t kt => by
        refine pre1441 _ ?_
        show Steps p.tables e below (T1440.setTop (mkF m 116 #[iv p0, iv p1, iv p2, iv p3, iv p4, iv p5, iv (4 : Int32), rv b1007, iv (3 : Int32), iv p3, iv p3] [(.int p3), (.int p3)])) _
        refine XS.icmpNo X1440.here hx rfl (hb hby at_116) rfl (XT.ii_ne_f rfl) ?_
        show Steps p.tables e below (T1440.setTop (mkF m 119 #[iv p0, iv p1, iv p2, iv p3, iv p4, iv p5, iv (4 : Int32), rv b1007, iv (3 : Int32), iv p3, iv p3] [])) _
        refine XS.iconst X1440.here hx rfl (hb hby at_119) ?_
        show Steps p.tables e below (T1440.setTop (mkF m 120 #[iv p0, iv p1, iv p2, iv p3, iv p4, iv p5, iv (4 : Int32), rv b1007, iv (3 : Int32), iv p3, iv p3] [(.int (1 : Int32))])) _
        refine XS.goto X1440.here hx rfl (pc0 := 120) (pc' := 124) rfl (hb hby at_120) (by decide) (by decide) ?_
        exact kt
      obtain ⟨fs, hr, hrun, hended, hW, hsame⟩ := X1440.leave (v := some (.int (1 : Int32))) (fun h => by rw [Bd.returns] at h; cases h)
      refine ⟨_, _, pre1442 _ (retN X1440 hx (t := .boolean) Bd.returns (by simp) (hb hby at_124) hr), hrun, hended, _, _, rfl, ?_, ⟨_, rfl⟩, hW, hsame.mono (by decide) (by decide)⟩
      show Q_law Z p0 p1 p2 p3 p4 p5 h0 n0 _ T1440.heap _
      rw [e1440]
      exact ⟨rfl, N1440⟩
set_option maxRecDepth 65536 in
set_option maxHeartbeats 40000000 in
theorem comes_1 {Post : Tables → Env → Array Value → State → Outcome → State → Prop} (hpost : ∀ tb e args s v u, (limb_1_1.after args s (.returned v) u = true ∧ limb_1_2.after args s (.returned v) u = true ∧ True) → FrameEnd s (.returned v) u (Jvm.fieldLocs frame_1_writes args s ++ Jvm.arrayLocs frame_1_arrays args s ++ Jvm.staticLocs frame_1_statics s) 16 128 → Post tb e args s (.returned v) u) :
    ArmFor flags0 classFile x code maxLocals ret World_1 tables_1 room_1 Calls_1 rest_1 Pre_1 Post := by
  intro l hfl _ _ p e ha hc hk s m args below hf hA hF happ hP
  obtain ⟨hcalls, hrest, hpre⟩ := hP
  obtain ⟨-, -, -, hnamed, -, -, -, hat⟩ := (Spec.applies_iff hf).mp happ
  obtain ⟨hg, hn⟩ := and_e (Cond.before_iff.mp (show (Jvm.Cond.and given_1 narrow_1).before args s = true from hpre))
  obtain ⟨given_1_2, given_1_3⟩ := and_e hg
  obtain ⟨given_1_4, given_1_5⟩ := and_e given_1_3
  obtain ⟨given_1_6, given_1_7⟩ := and_e given_1_5
  obtain ⟨given_1_8, given_1_9⟩ := and_e given_1_7
  obtain ⟨given_1_10, given_1_11⟩ := and_e given_1_9
  obtain ⟨given_1_12, given_1_13⟩ := and_e given_1_11
  obtain ⟨w0, w1, w2, w3, w4, w5, rfl⟩ : ∃ w0 w1 w2 w3 w4 w5 : Value, args = #[w0, w1, w2, w3, w4, w5] := by
    have hs : args.size = 6 := by simpa [Cond.value, given_1] using given_1_2
    obtain ⟨L⟩ := args
    match L, hs with
    | [w0, w1, w2, w3, w4, w5], _ => exact ⟨w0, w1, w2, w3, w4, w5, rfl⟩
  have hw := fun d (hd : d ∈ tables_1) => atoms_spec (ws := Jvm.Cond.code x code maxLocals ret :: tables_1) hat d (List.mem_cons_of_mem _ hd)
  have W := fun {d : Jvm.Cond} (i : Nat) (q : tables_1[i]? = some d) => hw d (List.mem_of_getElem? q)
  have hfit : Fit s := fun {y c} hc i hi => by
    obtain ⟨ha, rfl⟩ := Array.getElem?_eq_some_iff.mp hc
    have q := List.all_eq_true.mp ((Array.all_eq_true_iff_forall_mem.mp hF) _ (Array.getElem_mem ha)) i (List.mem_range.mpr hi)
    simpa [Array.getElem?_eq_getElem hi] using q
  obtain ⟨i0, ei0⟩ := is_v given_1_4
  obtain rfl : w0 = (.int i0) := Option.some.inj ei0
  obtain ⟨i1, ei1⟩ := is_v given_1_6
  obtain rfl : w1 = (.int i1) := Option.some.inj ei1
  obtain ⟨i2, ei2⟩ := is_v given_1_8
  obtain rfl : w2 = (.int i2) := Option.some.inj ei2
  obtain ⟨i3, ei3⟩ := is_v given_1_10
  obtain rfl : w3 = (.int i3) := Option.some.inj ei3
  obtain ⟨i4, ei4⟩ := is_v given_1_12
  obtain rfl : w4 = (.int i4) := Option.some.inj ei4
  obtain ⟨i5, ei5⟩ := is_v given_1_13
  obtain rfl : w5 = (.int i5) := Option.some.inj ei5
  obtain ⟨n, o, h1, h2, h3, _, L, rfl, ⟨rfl, N⟩, hq⟩ := rm_law l s _ hw tables_1 i0 i1 i2 i3 i4 i5 s.heap s.heap.size (Old.start s)  p e ha hc hk s m _ below hf ((Spec.applies_iff_loose hf).mp happ).1 ⟨rfl, State.Warmed39.refl s, rfl⟩ trivial
  refine ⟨n, _, h1, h2, h3, hpost _ _ _ _ _ _ ⟨Cond.after_iff.mpr rfl, Cond.after_iff.mpr (eq_i res_at (Term.int_eval (1)) rfl), trivial⟩ ⟨hq.1, hq.2.1, (hq.2.2.sift fun y hy => Or.inr (N y hy)).mono (by decide) (by decide)⟩⟩
theorem main_1_1 : Claimed_1_1 := comes_1 fun _ _ _ _ _ _ h hF => ⟨h.1, hF⟩
theorem main_1_2 : Claimed_1_2 := comes_1 fun _ _ _ _ _ _ h hF => ⟨h.2.1, hF⟩
end Jvm.Pilot.@@N@@
namespace Jvm.Pilot.@@N@@
open Jvm Jvm.ClassFile Sem Op Lib Jvm.Free Jvm.Stand Jvm.Pilot.@@N@@.Jvm.D
/-! MADE BY PROGRAM (witnessworld.py) out of the Statement's table words and the real class files: 12 classes; the members and pool entries that the words name. The judged class is class 1, her method 1. -/
namespace start1
open Jvm.ClassFile
def u (s : String) : CpInfo := .utf8 (stringToUtf16 s)
/-- a pool by its gaps: so many unusable entries, then the entry; so many at the end -/
def gap : Nat → List CpInfo → List CpInfo
  | 0, r => r
  | n + 1, r => .unusable :: gap n r
def poolList (es : List (Nat × CpInfo)) (last : Nat) : List CpInfo := es.foldr (fun e r => gap e.1 (e.2 :: r)) (gap last [])
def pool (es : List (Nat × CpInfo)) (last : Nat) : Array CpInfo := ⟨poolList es last⟩
def fileOf (pool : Array CpInfo) (this : Nat) (attrs : Array Attribute := #[]) (ms : Array MethodInfo := #[]) (fl : Nat := 33) (sup : Nat := 0) (ifs : Array Nat := #[]) (fds : Array FieldInfo := #[]) : ClassFile where
  minorVersion := 0
  majorVersion := 65
  constantPool := pool
  accessFlags := fl
  thisClass := this
  superClass := sup
  interfaces := ifs
  fields := fds
  methods := ms
  attributes := attrs
def plain (name : String) (sup : Option ClassId) : Class where
  name := name
  kind := .ordinary
  loader := none
  accessFlags := 33
  super := sup
  interfaces := #[]
  cf := none
  fields := #[]
  methods := #[]
  instanceTypes := #[]
  staticTypes := #[]
  resolved := #[]
  callSites := []
  init := .initialized
  statics := none
  mirror := none

def pool0 : Array CpInfo := pool [(5, u "<init>"), (0, u "()V"), (1, .class_ 10), (1, u "java/lang/Object")] 113

def k0c0 : Code := { maxStack := 0, maxLocals := 1, code := object_method_1_code, exceptionTable := #[], attributes := #[] }
def k0m0 : Method := { name := "<init>", desc := "()V", sig := { parameters := [], returnType := none }, accessFlags := 1, code := some k0c0 }
/-- java/lang/Object -/
def k0 : Class := { plain "java/lang/Object" none with
  accessFlags := 33
  interfaces := #[]
  cf := some (fileOf pool0 8 #[] #[{ accessFlags := 1, nameIndex := 5, descriptorIndex := 6, attributes := #[] }] 33 0 #[] #[])
  fields := #[]
  methods := #[k0m0]
  instanceTypes := #[]
  staticTypes := #[]
  resolved := Array.replicate 124 none
  statics := none }

def pool1 : Array CpInfo := pool [(2, .class_ 4), (0, .nameAndType 5 6), (0, u "java/lang/Object"), (0, u "<init>"), (0, u "()V"), (0, .class_ 8), (0, u "org/reachwatch/IntBlocks"), (0, .methodref 7 3), (0, .methodref 7 11), (0, .nameAndType 12 13), (0, u "add"), (0, u "(I)V"), (0, .integer 2147483647), (0, .methodref 7 16), (0, .nameAndType 17 18), (0, u "get"), (0, u "(I)I"), (0, .methodref 20 21), (0, .class_ 22), (0, .nameAndType 23 24), (0, u "org/reachwatch/IntBlocksGetPinLaw"), (0, u "ref"), (0, u "(IIIII)I"), (2, u "law"), (0, u "(IIIIII)Z")] 3

def k1m0 : Method := { name := "<init>", desc := "()V", sig := { parameters := [], returnType := none }, accessFlags := 1, code := none }
def k1c1 : Code := { maxStack := 6, maxLocals := 11, code := code, exceptionTable := #[], attributes := #[] }
def k1m1 : Method := { name := "law", desc := "(IIIIII)Z", sig := { parameters := [.int, .int, .int, .int, .int, .int], returnType := some .boolean }, accessFlags := 9, code := some k1c1 }
def k1c2 : Code := { maxStack := 2, maxLocals := 5, code := method_3_code, exceptionTable := #[], attributes := #[] }
def k1m2 : Method := { name := "ref", desc := "(IIIII)I", sig := { parameters := [.int, .int, .int, .int, .int], returnType := some .int }, accessFlags := 10, code := some k1c2 }
/-- org/reachwatch/IntBlocksGetPinLaw -/
def k1 : Class := { plain "org/reachwatch/IntBlocksGetPinLaw" (some 0) with
  accessFlags := 49
  interfaces := #[]
  cf := some (fileOf pool1 20 #[] #[{ accessFlags := 1, nameIndex := 5, descriptorIndex := 6, attributes := #[] }, { accessFlags := 9, nameIndex := 27, descriptorIndex := 28, attributes := #[] }, { accessFlags := 10, nameIndex := 23, descriptorIndex := 24, attributes := #[] }] 49 2 #[] #[])
  fields := #[]
  methods := #[k1m0, k1m1, k1m2]
  instanceTypes := #[]
  staticTypes := #[]
  resolved := Array.replicate 32 none
  statics := none }

def pool2 : Array CpInfo := pool [(3, .methodref 4 5), (0, .class_ 6), (0, .nameAndType 7 8), (0, u "java/lang/Object"), (0, u "<init>"), (0, u "()V"), (0, .class_ 10), (0, u "[I"), (0, .fieldref 12 13), (0, .class_ 14), (0, .nameAndType 15 16), (0, u "org/reachwatch/IntBlocks"), (0, u "blocks"), (0, u "[[I"), (0, .fieldref 12 18), (0, .nameAndType 19 20), (0, u "size"), (0, u "I"), (0, .integer 65536), (10, .methodref 33 34), (0, .class_ 35), (0, .nameAndType 36 37), (0, u "java/util/Objects"), (0, u "checkIndex"), (0, u "(II)I"), (15, u "BLOCK"), (1, u "MAX_SIZE"), (1, u "FIRST_BLOCK"), (3, u "add"), (0, u "(I)V"), (1, u "get"), (0, u "(I)I")] 7

def k2c0 : Code := { maxStack := 2, maxLocals := 1, code := prog_56_method_1_code, exceptionTable := #[], attributes := #[] }
def k2m0 : Method := { name := "<init>", desc := "()V", sig := { parameters := [], returnType := none }, accessFlags := 0, code := some k2c0 }
def k2c1 : Code := { maxStack := 5, maxLocals := 4, code := prog_56_method_2_code, exceptionTable := #[], attributes := #[] }
def k2m1 : Method := { name := "add", desc := "(I)V", sig := { parameters := [.int], returnType := none }, accessFlags := 0, code := some k2c1 }
def k2c2 : Code := { maxStack := 3, maxLocals := 2, code := prog_56_method_3_code, exceptionTable := #[], attributes := #[] }
def k2m2 : Method := { name := "get", desc := "(I)I", sig := { parameters := [.int], returnType := some .int }, accessFlags := 0, code := some k2c2 }
/-- org/reachwatch/IntBlocks -/
def k2 : Class := { plain "org/reachwatch/IntBlocks" (some 0) with
  accessFlags := 48
  interfaces := #[]
  cf := some (fileOf pool2 12 #[] #[{ accessFlags := 0, nameIndex := 7, descriptorIndex := 8, attributes := #[] }, { accessFlags := 0, nameIndex := 61, descriptorIndex := 62, attributes := #[] }, { accessFlags := 0, nameIndex := 64, descriptorIndex := 65, attributes := #[] }] 48 4 #[] #[{ accessFlags := 24, nameIndex := 53, descriptorIndex := 20, attributes := #[] }, { accessFlags := 24, nameIndex := 55, descriptorIndex := 20, attributes := #[] }, { accessFlags := 26, nameIndex := 57, descriptorIndex := 20, attributes := #[] }, { accessFlags := 2, nameIndex := 15, descriptorIndex := 16, attributes := #[] }, { accessFlags := 2, nameIndex := 19, descriptorIndex := 20, attributes := #[] }])
  fields := #[{ name := "BLOCK", type := .int, accessFlags := 24, slot := 0, constantValue := 0 }, { name := "MAX_SIZE", type := .int, accessFlags := 24, slot := 1, constantValue := 0 }, { name := "FIRST_BLOCK", type := .int, accessFlags := 26, slot := 2, constantValue := 0 }, { name := "blocks", type := (.array (.array .int)), accessFlags := 2, slot := 0, constantValue := 0 }, { name := "size", type := .int, accessFlags := 2, slot := 1, constantValue := 0 }]
  methods := #[k2m0, k2m1, k2m2]
  instanceTypes := #[(.array (.array .int)), .int]
  staticTypes := #[.int, .int, .int]
  resolved := Array.replicate 73 none
  statics := none }

def pool3 : Array CpInfo := pool [(2, .class_ 4), (1, u "java/lang/Object"), (0, u "<init>"), (0, u "()V"), (35, .class_ 44), (1, u "java/util/Objects"), (60, .methodref 106 107), (0, .class_ 108), (0, .nameAndType 109 110), (0, u "jdk/internal/util/Preconditions"), (0, u "checkIndex"), (0, u "(IILjava/util/function/BiFunction;)I"), (60, u "(II)I")] 12

def k3m0 : Method := { name := "<init>", desc := "()V", sig := { parameters := [], returnType := none }, accessFlags := 2, code := none }
def k3c1 : Code := { maxStack := 3, maxLocals := 2, code := jdk_31_method_17_code, exceptionTable := #[], attributes := #[] }
def k3m1 : Method := { name := "checkIndex", desc := "(II)I", sig := { parameters := [.int, .int], returnType := some .int }, accessFlags := 9, code := some k3c1 }
/-- java/util/Objects -/
def k3 : Class := { plain "java/util/Objects" (some 0) with
  accessFlags := 49
  interfaces := #[]
  cf := some (fileOf pool3 42 #[] #[{ accessFlags := 2, nameIndex := 5, descriptorIndex := 6, attributes := #[] }, { accessFlags := 9, nameIndex := 109, descriptorIndex := 171, attributes := #[] }] 49 2 #[] #[])
  fields := #[]
  methods := #[k3m0, k3m1]
  instanceTypes := #[]
  staticTypes := #[]
  resolved := Array.replicate 184 none
  statics := none }

def pool4 : Array CpInfo := pool [(2, .class_ 4), (1, u "java/lang/Object"), (0, u "<init>"), (0, u "()V"), (17, .class_ 26), (1, u "jdk/internal/util/Preconditions"), (6, u "checkIndex"), (21, .class_ 56), (0, u "jdk/internal/util/Preconditions$4"), (57, .class_ 115), (0, u "jdk/internal/util/Preconditions$1"), (7, u "SIOOBE_FORMATTER"), (0, u "Ljava/util/function/BiFunction;"), (0, .class_ 126), (0, u "jdk/internal/util/Preconditions$2"), (3, u "AIOOBE_FORMATTER"), (0, .class_ 132), (0, u "jdk/internal/util/Preconditions$3"), (3, u "IOOBE_FORMATTER"), (41, u "(IILjava/util/function/BiFunction;)I")] 15

def k4m0 : Method := { name := "<init>", desc := "()V", sig := { parameters := [], returnType := none }, accessFlags := 1, code := none }
def k4c1 : Code := { maxStack := 3, maxLocals := 3, code := jdk_41_method_11_code, exceptionTable := #[], attributes := #[] }
def k4m1 : Method := { name := "checkIndex", desc := "(IILjava/util/function/BiFunction;)I", sig := { parameters := [.int, .int, (.object "java/util/function/BiFunction")], returnType := some .int }, accessFlags := 9, code := some k4c1 }
/-- jdk/internal/util/Preconditions -/
def k4 : Class := { plain "jdk/internal/util/Preconditions" (some 0) with
  accessFlags := 33
  interfaces := #[]
  cf := some (fileOf pool4 24 #[.nestMembers #[55, 131, 125, 114]] #[{ accessFlags := 1, nameIndex := 5, descriptorIndex := 6, attributes := #[] }, { accessFlags := 9, nameIndex := 33, descriptorIndex := 178, attributes := #[] }] 33 2 #[] #[{ accessFlags := 25, nameIndex := 123, descriptorIndex := 124, attributes := #[] }, { accessFlags := 25, nameIndex := 130, descriptorIndex := 124, attributes := #[] }, { accessFlags := 25, nameIndex := 136, descriptorIndex := 124, attributes := #[] }])
  fields := #[{ name := "SIOOBE_FORMATTER", type := (.object "java/util/function/BiFunction"), accessFlags := 25, slot := 0, constantValue := 0 }, { name := "AIOOBE_FORMATTER", type := (.object "java/util/function/BiFunction"), accessFlags := 25, slot := 1, constantValue := 0 }, { name := "IOOBE_FORMATTER", type := (.object "java/util/function/BiFunction"), accessFlags := 25, slot := 2, constantValue := 0 }]
  methods := #[k4m0, k4m1]
  instanceTypes := #[]
  staticTypes := #[(.object "java/util/function/BiFunction"), (.object "java/util/function/BiFunction"), (.object "java/util/function/BiFunction")]
  resolved := Array.replicate 194 none
  statics := none }

def pool5 : Array CpInfo := pool [(1, u "java/lang/Cloneable"), (0, .class_ 1), (0, u "java/lang/Object"), (0, .class_ 3)] 3

/-- java/lang/Cloneable -/
def k5 : Class := { plain "java/lang/Cloneable" (some 0) with
  accessFlags := 1537
  interfaces := #[]
  cf := some (fileOf pool5 2 #[] #[] 1537 4 #[] #[])
  fields := #[]
  methods := #[]
  instanceTypes := #[]
  staticTypes := #[]
  resolved := Array.replicate 8 none
  statics := none }

def pool6 : Array CpInfo := pool [(1, u "java/io/Serializable"), (0, .class_ 1), (0, u "java/lang/Object"), (0, .class_ 3)] 3

/-- java/io/Serializable -/
def k6 : Class := { plain "java/io/Serializable" (some 0) with
  accessFlags := 1537
  interfaces := #[]
  cf := some (fileOf pool6 2 #[] #[] 1537 4 #[] #[])
  fields := #[]
  methods := #[]
  instanceTypes := #[]
  staticTypes := #[]
  resolved := Array.replicate 8 none
  statics := none }

/-- the primitive byte -/
def k7 : Class := { plain "byte" none with kind := .primitive 'B', accessFlags := 0x411 }
/-- [B -/
def k8 : Class := { plain "[B" (some 0) with kind := .array 7 .byte, interfaces := #[5, 6], accessFlags := 1041 }

/-- the primitive int -/
def k9 : Class := { plain "int" none with kind := .primitive 'I', accessFlags := 0x411 }
/-- [I -/
def k10 : Class := { plain "[I" (some 0) with kind := .array 9 .int, interfaces := #[5, 6], accessFlags := 1041 }

/-- [[I -/
def k11 : Class := { plain "[[I" (some 0) with kind := .array 10 (.array .int), interfaces := #[5, 6], accessFlags := 1041 }

def heap : Heap := #[]
def classes : Array Class := #[k0, k1, k2, k3, k4, k5, k6, k7, k8, k9, k10, k11]
def interned : List (Array UInt16 × Addr) := []
def slotsUsed : Nat := 0
def theMethod : MethodId := ⟨1, 1⟩
def args0 : Array Value := #[.int 5, .int 4, .int 5, .int 4, .int 5, .int 4]
def aboutOver (below : List Frame) : State where
  vm := { classes := classes, interned := interned.toArray }
  heap := heap
  slotsUsed := slotsUsed
  threads := #[{ frames := .invoking theMethod args0 :: below }]
def below0 : List Frame := [.native { method := ⟨0, 0⟩, args := #[] }]
def about1 : State := aboutOver below0
def p0 : Program := .bare "" "" ""
def e0 : Env := launch0.env 0 0 0
theorem w_frames : about1.frames = Frame.invoking theMethod args0 :: below0 := rfl
set_option maxRecDepth 65536 in
theorem w_args : argsFit about1.vm theMethod args0 = true := by decide +kernel
set_option maxRecDepth 65536 in
theorem w_heap : heapFits about1 = true := by decide +kernel
set_option maxRecDepth 65536 in
theorem w_runnable : about1.curStatus? = some .runnable := by decide +kernel
set_option maxRecDepth 65536 in
theorem w_alone : about1.alone = true := by decide +kernel
set_option maxRecDepth 65536 in
theorem w_named : about1.methodNamed? x = some theMethod := by decide +kernel
set_option maxRecDepth 65536 in
theorem w_hears : about1.hears theMethod below0 = true := by decide +kernel
set_option maxRecDepth 65536 in
theorem w_ripe : about1.ripe theMethod args0 below0 = true := by decide +kernel
theorem w_running : about1.status = .running := rfl
set_option maxRecDepth 65536 in
theorem w_room : about1.hasRoom e0.platform room_1 = true :=
  launch0.hasRoom_least _ room_1 (by decide +kernel) (by decide +kernel) (by decide +kernel) (by decide +kernel) (by decide +kernel) (by decide +kernel)
theorem allAtoms_all (ts : List Jvm.Cond) (a : Array Jvm.Value) (st : Jvm.State) : (allAtoms ts).before a st = ts.all (fun c => c.before a st) := by
  induction ts with
  | nil => rfl
  | cons c t ih =>
    show (Jvm.Cond.and c (allAtoms t)).before a st = _
    rw [Jvm.Cond.before_and, ih, List.all_cons]
def words1 : List Jvm.Cond := Jvm.Cond.code x code maxLocals ret :: tables_1
/-- a 'code' word, met by the world's own term for the bytes: nothing is compared byte by byte -/
theorem code_word {y : MethodName} {bytes : ByteArray} {mx : Nat} {rt : Option FieldType} {a : Array Value} {s : State} {m : MethodId} {meth : Method} {c : Code} (h1 : s.methodNamed? y = some m) (h2 : s.vm.method? m = some meth) (h3 : meth.code = some c) (h4 : c.code = bytes)
    (h5 : (c.maxLocals == mx && c.exceptionTable.isEmpty && decide (c.maxStack ≤ mostOperands) && decide (meth.sig.returnType = rt) && !meth.locks && decide (parseMethodDescriptor y.desc = some meth.sig)) = true) : (Jvm.Cond.code y bytes mx rt).before a s = true := by
  simp only [Bool.and_eq_true, beq_iff_eq, Bool.not_eq_true', decide_eq_true_eq] at h5
  obtain ⟨⟨⟨⟨⟨g1, g2⟩, g3⟩, g4⟩, g5⟩, g6⟩ := h5
  simp [Cond.before, Cond.holds, Cond.value, h1, h2, h3, h4, g1, g2, g3, g4, g5, g6]
def isCode : Jvm.Cond → Bool
  | .code _ _ _ _ => true
  | _ => false
theorem all_split {L : List Jvm.Cond} {P : Jvm.Cond → Bool} (h1 : L.all (fun c => isCode c || P c) = true) (h2 : ∀ c ∈ L.filter isCode, P c = true) : L.all P = true := by
  refine List.all_eq_true.mpr fun c hc => ?_
  have h := List.all_eq_true.mp h1 c hc
  rcases Bool.eq_false_or_eq_true (isCode c) with hi | hi
  · exact h2 c (List.mem_filter.mpr ⟨hc, hi⟩)
  · simpa [hi] using h
set_option maxRecDepth 65536 in
theorem w_c0 : (Jvm.Cond.code x code maxLocals ret).before args0 about1 = true := code_word (m := ⟨1, 1⟩) (meth := k1m1) (c := k1c1) (by decide +kernel) rfl rfl rfl (by decide +kernel)
set_option maxRecDepth 65536 in
theorem w_c1 : (Jvm.Cond.code ({ cls := "org/reachwatch/IntBlocks", name := "<init>", desc := "()V" } : Jvm.MethodName) prog_56_method_1_code (1 : Nat) (Option.none : Option Jvm.ClassFile.FieldType)).before args0 about1 = true := code_word (m := ⟨2, 0⟩) (meth := k2m0) (c := k2c0) (by decide +kernel) rfl rfl rfl (by decide +kernel)
set_option maxRecDepth 65536 in
theorem w_c2 : (Jvm.Cond.code ({ cls := "java/lang/Object", name := "<init>", desc := "()V" } : Jvm.MethodName) object_method_1_code (1 : Nat) (Option.none : Option Jvm.ClassFile.FieldType)).before args0 about1 = true := code_word (m := ⟨0, 0⟩) (meth := k0m0) (c := k0c0) (by decide +kernel) rfl rfl rfl (by decide +kernel)
set_option maxRecDepth 65536 in
theorem w_c3 : (Jvm.Cond.code ({ cls := "org/reachwatch/IntBlocks", name := "add", desc := "(I)V" } : Jvm.MethodName) prog_56_method_2_code (4 : Nat) (Option.none : Option Jvm.ClassFile.FieldType)).before args0 about1 = true := code_word (m := ⟨2, 1⟩) (meth := k2m1) (c := k2c1) (by decide +kernel) rfl rfl rfl (by decide +kernel)
set_option maxRecDepth 65536 in
theorem w_c4 : (Jvm.Cond.code ({ cls := "org/reachwatch/IntBlocks", name := "get", desc := "(I)I" } : Jvm.MethodName) prog_56_method_3_code (2 : Nat) (Option.some Jvm.ClassFile.FieldType.int)).before args0 about1 = true := code_word (m := ⟨2, 2⟩) (meth := k2m2) (c := k2c2) (by decide +kernel) rfl rfl rfl (by decide +kernel)
set_option maxRecDepth 65536 in
theorem w_c5 : (Jvm.Cond.code ({ cls := "java/util/Objects", name := "checkIndex", desc := "(II)I" } : Jvm.MethodName) jdk_31_method_17_code (2 : Nat) (Option.some Jvm.ClassFile.FieldType.int)).before args0 about1 = true := code_word (m := ⟨3, 1⟩) (meth := k3m1) (c := k3c1) (by decide +kernel) rfl rfl rfl (by decide +kernel)
set_option maxRecDepth 65536 in
theorem w_c6 : (Jvm.Cond.code ({ cls := "jdk/internal/util/Preconditions", name := "checkIndex", desc := "(IILjava/util/function/BiFunction;)I" } : Jvm.MethodName) jdk_41_method_11_code (3 : Nat) (Option.some Jvm.ClassFile.FieldType.int)).before args0 about1 = true := code_word (m := ⟨4, 1⟩) (meth := k4m1) (c := k4c1) (by decide +kernel) rfl rfl rfl (by decide +kernel)
set_option maxRecDepth 65536 in
theorem w_c7 : (Jvm.Cond.code ({ cls := "org/reachwatch/IntBlocksGetPinLaw", name := "ref", desc := "(IIIII)I" } : Jvm.MethodName) method_3_code (5 : Nat) (Option.some Jvm.ClassFile.FieldType.int)).before args0 about1 = true := code_word (m := ⟨1, 2⟩) (meth := k1m2) (c := k1c2) (by decide +kernel) rfl rfl rfl (by decide +kernel)
def codes1 : List Jvm.Cond := [Jvm.Cond.code x code maxLocals ret, Jvm.Cond.code ({ cls := "org/reachwatch/IntBlocks", name := "<init>", desc := "()V" } : Jvm.MethodName) prog_56_method_1_code (1 : Nat) (Option.none : Option Jvm.ClassFile.FieldType), Jvm.Cond.code ({ cls := "java/lang/Object", name := "<init>", desc := "()V" } : Jvm.MethodName) object_method_1_code (1 : Nat) (Option.none : Option Jvm.ClassFile.FieldType), Jvm.Cond.code ({ cls := "org/reachwatch/IntBlocks", name := "add", desc := "(I)V" } : Jvm.MethodName) prog_56_method_2_code (4 : Nat) (Option.none : Option Jvm.ClassFile.FieldType), Jvm.Cond.code ({ cls := "org/reachwatch/IntBlocks", name := "get", desc := "(I)I" } : Jvm.MethodName) prog_56_method_3_code (2 : Nat) (Option.some Jvm.ClassFile.FieldType.int), Jvm.Cond.code ({ cls := "java/util/Objects", name := "checkIndex", desc := "(II)I" } : Jvm.MethodName) jdk_31_method_17_code (2 : Nat) (Option.some Jvm.ClassFile.FieldType.int), Jvm.Cond.code ({ cls := "jdk/internal/util/Preconditions", name := "checkIndex", desc := "(IILjava/util/function/BiFunction;)I" } : Jvm.MethodName) jdk_41_method_11_code (3 : Nat) (Option.some Jvm.ClassFile.FieldType.int), Jvm.Cond.code ({ cls := "org/reachwatch/IntBlocksGetPinLaw", name := "ref", desc := "(IIIII)I" } : Jvm.MethodName) method_3_code (5 : Nat) (Option.some Jvm.ClassFile.FieldType.int)]
set_option maxRecDepth 65536 in
theorem codes_eq : words1.filter isCode = codes1 := rfl
theorem w_codes : ∀ c ∈ words1.filter isCode, c.before args0 about1 = true := by
  rw [codes_eq]
  intro c hc
  simp only [codes1, List.mem_cons, List.not_mem_nil, or_false] at hc
  rcases hc with rfl | rfl | rfl | rfl | rfl | rfl | rfl | rfl
  · exact w_c0
  · exact w_c1
  · exact w_c2
  · exact w_c3
  · exact w_c4
  · exact w_c5
  · exact w_c6
  · exact w_c7
set_option maxRecDepth 65536 in
theorem w_t1 : (words1.take 24).all (fun c => isCode c || c.before args0 about1) = true := by decide +kernel
set_option maxRecDepth 65536 in
theorem w_t2 : (words1.drop 24).all (fun c => isCode c || c.before args0 about1) = true := by decide +kernel
theorem w_tables : (allAtoms (Jvm.Cond.code x code maxLocals ret :: tables_1)).before args0 about1 = true := by
  rw [allAtoms_all]
  show words1.all (fun c => c.before args0 about1) = true
  refine all_split ?_ w_codes
  rw [← List.take_append_drop 24 words1, List.all_append, w_t1, w_t2]
  rfl
set_option maxRecDepth 65536 in
theorem w_case : (Jvm.Cond.and given_1 narrow_1).before args0 about1 = true := by decide +kernel
theorem w_applies : (headSpec (Jvm.Cond.code x code maxLocals ret :: tables_1) room_1).applies x e0.platform about1 = true :=
  (Spec.applies_iff w_frames).mpr ⟨w_running, w_runnable, w_alone, w_named, w_hears, w_ripe, w_room, w_tables⟩
theorem atStart : AtStart classFile x code maxLocals ret World_1 tables_1 room_1 Calls_1 rest_1 Pre_1 launch0 p0 e0 about1 theMethod args0 below0 :=
  ⟨lists_1, trivial, launch0.admits_env _ _ _, launch0.least_env, fairChoices_fair.cas, fairChoices_fair.clock, w_frames, w_args, w_heap, w_applies, trivial, trivial, w_case⟩
end start1
theorem witness_1 : WitnessClaimed_1 := ⟨start1.p0, start1.e0, start1.about1, start1.theMethod, start1.args0, start1.below0, start1.atStart⟩
end Jvm.Pilot.@@N@@
