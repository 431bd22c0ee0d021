import JvmDerived
import JvmDerived.Pilot.@@N@@Statement
import JvmDerived.Pilot.@@N@@Code
set_option linter.unusedVariables false
set_option linter.unusedSimpArgs false
@@BLOCK:NumsL.lean.txt@@
namespace Jvm.RoadKit
open Sem ClassFile Op Lib Jvm.Stand Jvm.Free Jvm.LawKit
section New
variable {p : Program} {l : Launch} {e : Env} {R : Room} {s : State} {m : MethodId} {args : Array Value} {below : List Frame} {meth : Method} {c : Code} {T : State} {locs : List Loc} {cells slots : Nat}
theorem retI (X : Stand p l e R s m args below meth c T locs cells slots) (hx : p.tables.exec = Jvm.exec) {pc : Nat} {Ls : Array Slot} {z : Int32} {rest : List Value} (hret : meth.sig.returnType = some .int) (hd : decode c.code pc = .ok (.ireturn, 1)) {fs : List Frame}
    (hl : ∀ (f : JFrame) (acts : List Action), f.method = m → f.locked = none → f.entered = [] → (doReturn e (T.setTop f) acts (some (.int z))).1 = T.setFrames fs) : Steps p.tables e below (T.setTop (mkF m pc Ls (.int z :: rest))) (T.setFrames fs) := by
  have hm' : T.vm.method? m = some meth := X.method'
  have hn : narrow .int (.int z) = .int z := rfl
  show Steps p.tables e below (T.setTop { method := m, pc := pc, locals := Ls, stack := _ :: rest, locked := none }) _
  jvm_step X.here [X.here.top, hx, hd, hm', hret, hn]
  first | (intro acts; rw [hl _ acts rfl rfl rfl]) | rw [hl _ _ rfl rfl rfl]
  exact Steps.refl _
end New
end Jvm.RoadKit
namespace Jvm.Pilot.@@N@@
open Jvm Jvm.ClassFile Sem Op Lib Jvm.Free Jvm.Stand Jvm.LawKit Jvm.RoadKit Bundle Jvm.Pilot.@@N@@.Jvm.D
theorem own_fld_ne {Z : State} {h : Heap} {a b : Addr} {C n d : String} {v w : Value} (F : Fld Z h a C n d v) (G : Fld Z h b C n d w) (q : v ≠ w) : a ≠ b := fun e => by
  subst e
  obtain ⟨c1, cf1, k1, i1, f1, a1, a2, -, -, -, -, a7⟩ := F
  obtain ⟨c2, cf2, k2, i2, f2, b1, b2, -, -, -, -, b7⟩ := G
  cases a1.symm.trans b1
  cases a2.symm.trans b2
  exact q (Option.some.inj (a7.symm.trans b7))
theorem own_fldI {args : Array Value} {s : State} {t : Term} {a : Addr} {C n d : String} {k : Int32} (ht : t.eval args s none [] s = some (.ref a)) (h : (Jvm.Cond.eq (Term.field t C n d) (Term.int k)).value args s none s [] = some true) : Fld s s.heap a C n d (.int k) := by
  apply Fld.start
  have e1 : (Term.field t C n d).eval args s none [] s = s.fieldOf? a C n d := fld_at ht
  have e2 : (Term.int k).eval args s none [] s = some (.int k) := Term.int_eval k
  simp only [Cond.value, e1, e2] at h
  split at h <;> simp_all
theorem own_nm0 {a : Addr} : a ∉ ([] : List Addr) := List.not_mem_nil
theorem own_nm1 {a x : Addr} (h : a ≠ x) : a ∉ [x] := fun q => h (List.mem_singleton.mp q)
theorem own_nm2 {a x y : Addr} (h : a ≠ x) (h2 : a ≠ y) : a ∉ [x, y] := fun q => by
  rcases List.mem_cons.mp q with q | q
  · exact h q
  · exact h2 (List.mem_singleton.mp q)
theorem own_nm3 {a x y z : Addr} (h : a ≠ x) (h2 : a ≠ y) (h3 : a ≠ z) : a ∉ [x, y, z] := fun q => by
  rcases List.mem_cons.mp q with q | q
  · exact h q
  · exact own_nm2 h2 h3 q
theorem own_all0 {P : Addr → Prop} : ∀ x ∈ ([] : List Addr), P x := fun x q => (List.not_mem_nil q).elim
theorem own_all1 {P : Addr → Prop} {a : Addr} (h : P a) : ∀ x ∈ [a], P x := fun x q => by rw [List.mem_singleton.mp q]; exact h
theorem own_all2 {P : Addr → Prop} {a b : Addr} (h : P a) (h2 : P b) : ∀ x ∈ [a, b], P x := fun x q => by
  rcases List.mem_cons.mp q with q | q
  · rw [q]; exact h
  · rw [List.mem_singleton.mp q]; exact h2
theorem own_all3 {P : Addr → Prop} {a b c : Addr} (h : P a) (h2 : P b) (h3 : P c) : ∀ x ∈ [a, b, c], P x := fun x q => by
  rcases List.mem_cons.mp q with q | q
  · rw [q]; exact h
  · exact own_all2 h2 h3 x q
def own_b (c : Int32) : Int32 := nar .byte ((nar .char (c.toUInt32.toUInt16.toUInt32.toInt32)).toInt8.toInt32)
def own_cs (b c0 c1 : Int32) : List Int32 := if b = (0 : Int32) then [c0] else [c0, c1]
def own_eqv (a b : List Int32) : Int32 := if a = b then (1 : Int32) else (0 : Int32)
def own_str (Z : State) (h : Heap) (r : Addr) (b c0 c1 : Int32) : Prop := ∃ (t : Addr) (k : ClassId) (n : Int32), Exa Z h r "java/lang/String" ∧ Fld Z h r "java/lang/String" "coder" "B" (.int (0 : Int32)) ∧ Fld Z h r "java/lang/String" "value" "[B" (.ref t) ∧ Arv Z h t k .byte n ((own_cs b c0 c1).map Value.int) (.int (0 : Int32)) ∧ n = (if b = (0 : Int32) then (1 : Int32) else (2 : Int32))
theorem own_str_ext {Z : State} {h h' : Heap} {r : Addr} {b c0 c1 : Int32} (F : own_str Z h r b c0 c1) (E : Ext h h') : own_str Z h' r b c0 c1 := by
  obtain ⟨t, k, n, f1, f2, f3, f4, f5⟩ := F
  exact ⟨t, k, n, f1.ext E, f2.ext E, f3.ext E, f4.ext E, f5⟩
theorem own_str_b {Z : State} {h : Heap} {r : Addr} {b b' c0 c1 : Int32} (F : own_str Z h r b c0 c1) (q : b = (0 : Int32) ↔ b' = (0 : Int32)) : own_str Z h r b' c0 c1 := by
  obtain ⟨t, k, n, f1, f2, f3, f4, f5⟩ := F
  by_cases hb : b = (0 : Int32)
  · have hb' := q.mp hb
    exact ⟨t, k, n, f1, f2, f3, by simpa [own_cs, hb, hb'] using f4, by simpa [hb, hb'] using f5⟩
  · have hb' : ¬ b' = (0 : Int32) := fun z => hb (q.mpr z)
    exact ⟨t, k, n, f1, f2, f3, by simpa [own_cs, hb, hb'] using f4, by simpa [hb, hb'] using f5⟩
theorem own_str_one {Z : State} {h : Heap} {r : Addr} {b c0 c1 : Int32} (F : own_str Z h r b c0 c1) (q : b = (0 : Int32)) : ∃ (t : Addr) (k : ClassId), Exa Z h r "java/lang/String" ∧ Fld Z h r "java/lang/String" "coder" "B" (.int (0 : Int32)) ∧ Fld Z h r "java/lang/String" "value" "[B" (.ref t) ∧ Arv Z h t k .byte (1 : Int32) [(.int c0)] (.int (0 : Int32)) := by
  obtain ⟨t, k, n, f1, f2, f3, f4, f5⟩ := F
  rw [if_pos q] at f5
  subst f5
  exact ⟨t, k, f1, f2, f3, by simpa [own_cs, q] using f4⟩
theorem own_str_two {Z : State} {h : Heap} {r : Addr} {b c0 c1 : Int32} (F : own_str Z h r b c0 c1) (q : ¬ b = (0 : Int32)) : ∃ (t : Addr) (k : ClassId), Exa Z h r "java/lang/String" ∧ Fld Z h r "java/lang/String" "coder" "B" (.int (0 : Int32)) ∧ Fld Z h r "java/lang/String" "value" "[B" (.ref t) ∧ Arv Z h t k .byte (2 : Int32) [(.int c0), (.int c1)] (.int (0 : Int32)) := by
  obtain ⟨t, k, n, f1, f2, f3, f4, f5⟩ := F
  rw [if_neg q] at f5
  subst f5
  exact ⟨t, k, f1, f2, f3, by simpa [own_cs, q] using f4⟩
theorem own_ext_trans {h h' h'' : Heap} (E : Ext h h') (E' : Ext h' h'') : Ext h h'' := ⟨Nat.le_trans E.1 E'.1, fun a c q => E'.2 a c (E.2 a c q)⟩
theorem own_ext_wr {h h' h'' : Heap} {a : Addr} {sl : Nat} {v : Value} (E : Ext h h') (W : Wr h' h'' a sl v) (q : h.size ≤ a) : Ext h h'' := by
  refine ⟨Nat.le_trans E.1 (Nat.le_of_eq W.size.symm), fun b c hb => ?_⟩
  have hlt := (Array.getElem?_eq_some_iff.mp hb).1
  obtain ⟨c', e1, -, -, -, e5, -⟩ := wr_at W (E.2 b c hb)
  rw [e1, e5 (Nat.ne_of_lt (Nat.lt_of_lt_of_le hlt q))]
theorem own_ext_keep {h h' h'' : Heap} {ws : List Addr} (E : Ext h h') (K : Keep h' h'' ws) (q : ∀ x ∈ ws, h.size ≤ x) : Ext h h'' :=
  ⟨Nat.le_trans E.1 K.1, fun b c hb => K.2.1 b c (E.2 b c hb) fun hm => absurd (q b hm) (Nat.not_le.mpr (Array.getElem?_eq_some_iff.mp hb).1)⟩
theorem own_ext_keep0 {h h' : Heap} (K : Keep h h' []) : Ext h h' := ⟨K.1, fun b c hb => K.2.1 b c hb List.not_mem_nil⟩
theorem own_fldcast {Z : State} {h : Heap} {a : Addr} {C n d : String} {x y : Int32} (F : Fld Z h a C n d (.int x)) (q : x = y) : Fld Z h a C n d (.int y) := q ▸ F
theorem own_str_lt {Z : State} {h : Heap} {r : Addr} {b c0 c1 : Int32} (F : own_str Z h r b c0 c1) : r < h.size := by
  obtain ⟨t, k, n, f1, -⟩ := F
  exact f1.lt
def own_u8 (c : Int32) : Prop := ¬ c < (0 : Int32) ∧ ¬ (255 : Int32) < c
def own_x0 (p : Int32) : Int32 := if (((p.toUInt32 >>> ((16 : Int32) &&& 31).toUInt32).toInt32) &&& (1 : Int32)) = (0 : Int32) then (0 : Int32) else (((p.toUInt32 >>> ((17 : Int32) &&& 31).toUInt32).toInt32) &&& (255 : Int32))
def own_x1 (p : Int32) : Int32 := if (((p.toUInt32 >>> ((16 : Int32) &&& 31).toUInt32).toInt32) &&& (1 : Int32)) = (0 : Int32) then (0 : Int32) else (((p.toUInt32 >>> ((25 : Int32) &&& 31).toUInt32).toInt32) &&& (127 : Int32))
def own_same (p q : Int32) : Int32 := if (q &&& (1 : Int32)) = (0 : Int32) then (if (q &&& (2 : Int32)) = (0 : Int32) then (if own_x0 p = (0 : Int32) then (1 : Int32) else (0 : Int32)) else (0 : Int32)) else (if (q &&& (2 : Int32)) = (0 : Int32) then (0 : Int32) else (if own_x0 p = (0 : Int32) then (if own_x1 p = (0 : Int32) then (1 : Int32) else (0 : Int32)) else (0 : Int32)))
theorem own_mask3 (x : Int32) : (x &&& (3 : Int32)) = (0 : Int32) ∨ (x &&& (3 : Int32)) = (1 : Int32) ∨ (x &&& (3 : Int32)) = (2 : Int32) ∨ (x &&& (3 : Int32)) = (3 : Int32) := by
  have e : (x &&& 3).toInt = x.toInt % 2 ^ 2 := Jvm.Kit.i32_mask x 3 (k := 2) (by decide) (by decide)
  have h : (x &&& 3).toInt = 0 ∨ (x &&& 3).toInt = 1 ∨ (x &&& 3).toInt = 2 ∨ (x &&& 3).toInt = 3 := by omega
  rcases h with h | h | h | h
  · exact Or.inl (Int32.toInt_inj.mp h)
  · exact Or.inr (Or.inl (Int32.toInt_inj.mp h))
  · exact Or.inr (Or.inr (Or.inl (Int32.toInt_inj.mp h)))
  · exact Or.inr (Or.inr (Or.inr (Int32.toInt_inj.mp h)))
theorem own_arv0 {args : Array Value} {s : State} {a : Addr} {t : Term} {ty : FieldType} {dv : Value} (hf : Fit s) (ev : t.eval args s none [] s = some (.ref a)) (h1 : (Jvm.Cond.arrayOf t ty).value args s none s [] = some true)
    (h2 : (Jvm.Cond.eq (Term.length t) (Term.int (0 : Int32))).value args s none s [] = some true) : ∃ k : ClassId, Arv s s.heap a k ty (0 : Int32) [] dv := by
  obtain ⟨cl, A⟩ := Arr.start ev h1
  obtain ⟨z1, z2⟩ := Jvm.Free.IntBox.length_fwd (args := args) (Cond.before_iff.mpr h2) ev A.1 A.2.1 A.2.2
  exact ⟨cl.cls, Arv.start hf A z1 z2 (by decide) (by decide) trivial⟩
def own_bit (d : Int32) : Prop := d = (0 : Int32) ∨ d = (1 : Int32)
def own_dif (d q : Int32) : Int32 := if q = (0 : Int32) then (1 : Int32) else d
theorem own_dif0 {d q : Int32} (h : q = (0 : Int32)) : own_dif d q = (1 : Int32) := if_pos h
theorem own_dif1 {d q : Int32} (h : ¬ q = (0 : Int32)) : own_dif d q = d := if_neg h
theorem own_str_exa {Z : State} {h : Heap} {r : Addr} {b c0 c1 : Int32} (F : own_str Z h r b c0 c1) : Exa Z h r "java/lang/String" := by
  obtain ⟨t, k, n, f1, -⟩ := F
  exact f1
theorem own_u8_toInt {c : Int32} : own_u8 c ↔ (0 ≤ c.toInt ∧ c.toInt ≤ 255) := by
  unfold own_u8
  rw [Int32.lt_iff_toInt_lt, Int32.lt_iff_toInt_lt]
  have a : ((0 : Int32)).toInt = 0 := by decide
  have b : ((255 : Int32)).toInt = 255 := by decide
  omega
theorem own_u8_nat {c : Int32} (u : own_u8 c) : ∃ k : Fin 256, c = Int32.ofNat k := by
  have h := own_u8_toInt.mp u
  refine ⟨⟨c.toInt.toNat, by omega⟩, Int32.toInt_inj.mp ?_⟩
  have e : (Int32.ofNat c.toInt.toNat).toInt = c.toInt.toNat := Int32.toInt_ofNat_of_lt (by omega)
  show c.toInt = (Int32.ofNat c.toInt.toNat).toInt
  rw [e]
  omega
theorem own_u8_mask (x : Int32) : own_u8 (x &&& (255 : Int32)) := by
  have e : (x &&& 255).toInt = x.toInt % 2 ^ 8 := Jvm.Kit.i32_mask x 255 (k := 8) (by decide) (by decide)
  exact own_u8_toInt.mpr (by omega)
theorem own_u8_mask7 (x : Int32) : own_u8 (x &&& (127 : Int32)) := by
  have e : (x &&& 127).toInt = x.toInt % 2 ^ 7 := Jvm.Kit.i32_mask x 127 (k := 7) (by decide) (by decide)
  exact own_u8_toInt.mpr (by omega)
theorem own_ch_all : ∀ k : Fin 256, nar .char ((Int32.ofNat k).toUInt32.toUInt16.toUInt32.toInt32) = Int32.ofNat k := by decide +kernel
theorem own_b_all : ∀ k : Fin 256, own_b (Int32.ofNat k) &&& 255 = Int32.ofNat k := by decide +kernel
theorem own_m_all : ∀ k : Fin 256, (Int32.ofNat k) &&& 255 = Int32.ofNat k := by decide +kernel
theorem own_ch255 {c : Int32} (u : own_u8 c) : ¬ (255 : Int32) < nar .char (c.toUInt32.toUInt16.toUInt32.toInt32) := by
  obtain ⟨k, rfl⟩ := own_u8_nat u
  rw [own_ch_all k]
  exact u.2
theorem own_b_inj {c d : Int32} (u : own_u8 c) (v : own_u8 d) (h : own_b c = own_b d) : c = d := by
  obtain ⟨k, rfl⟩ := own_u8_nat u
  obtain ⟨j, rfl⟩ := own_u8_nat v
  rw [← own_b_all k, h, own_b_all j]
theorem own_xor_mask (x y : Int32) : (x &&& 255) ^^^ (y &&& 255) = (x ^^^ y) &&& 255 := by
  apply Int32.toBitVec_inj.mp
  simp only [Int32.toBitVec_xor, Int32.toBitVec_and]
  ext i
  simp
  cases x.toBitVec[i] <;> cases y.toBitVec[i] <;> simp
theorem own_u8_xor {a b : Int32} (u : own_u8 a) (v : own_u8 b) : own_u8 (a ^^^ b) := by
  obtain ⟨k, rfl⟩ := own_u8_nat u
  obtain ⟨j, rfl⟩ := own_u8_nat v
  rw [← own_m_all k, ← own_m_all j, own_xor_mask]
  exact own_u8_mask _
theorem own_xor_self {a x : Int32} : a ^^^ x = a ↔ x = 0 := by
  constructor
  · intro h
    have : a ^^^ (a ^^^ x) = a ^^^ a := by rw [h]
    rwa [← Int32.xor_assoc, Int32.xor_self, Int32.zero_xor] at this
  · rintro rfl
    exact Int32.xor_zero
theorem own_u8_x0 (p : Int32) : own_u8 (own_x0 p) := by
  unfold own_x0
  split
  · exact ⟨by decide, by decide⟩
  · exact own_u8_mask _
theorem own_u8_x1 (p : Int32) : own_u8 (own_x1 p) := by
  unfold own_x1
  split
  · exact ⟨by decide, by decide⟩
  · exact own_u8_mask7 _
theorem own_u8_o0 (p : Int32) : own_u8 ((p &&& (255 : Int32)) ^^^ (own_x0 p)) := own_u8_xor (own_u8_mask _) (own_u8_x0 p)
theorem own_u8_o1 (p : Int32) : own_u8 ((((p.toUInt32 >>> ((8 : Int32) &&& 31).toUInt32).toInt32) &&& (255 : Int32)) ^^^ (own_x1 p)) := own_u8_xor (own_u8_mask _) (own_u8_x1 p)
theorem own_bx {a x : Int32} (u : own_u8 a) (v : own_u8 x) : own_b (a ^^^ x) = own_b a ↔ x = 0 := by
  constructor
  · intro h
    exact own_xor_self.mp (own_b_inj (own_u8_xor u v) u h)
  · rintro rfl
    rw [Int32.xor_zero]
theorem own_sync (p q : Int32) : (own_same p q = (0 : Int32) ∧ own_eqv (own_cs (q &&& (2 : Int32)) (own_b ((p &&& (255 : Int32)) ^^^ (own_x0 p))) (own_b ((((p.toUInt32 >>> ((8 : Int32) &&& 31).toUInt32).toInt32) &&& (255 : Int32)) ^^^ (own_x1 p)))) (own_cs (q &&& (1 : Int32)) (own_b (p &&& (255 : Int32))) (own_b (((p.toUInt32 >>> ((8 : Int32) &&& 31).toUInt32).toInt32) &&& (255 : Int32)))) = (0 : Int32)) ∨
    (¬ own_same p q = (0 : Int32) ∧ ¬ own_eqv (own_cs (q &&& (2 : Int32)) (own_b ((p &&& (255 : Int32)) ^^^ (own_x0 p))) (own_b ((((p.toUInt32 >>> ((8 : Int32) &&& 31).toUInt32).toInt32) &&& (255 : Int32)) ^^^ (own_x1 p)))) (own_cs (q &&& (1 : Int32)) (own_b (p &&& (255 : Int32))) (own_b (((p.toUInt32 >>> ((8 : Int32) &&& 31).toUInt32).toInt32) &&& (255 : Int32)))) = (0 : Int32)) := by
  have b0 := own_bx (own_u8_mask p) (own_u8_x0 p)
  have b1 := own_bx (own_u8_mask ((p.toUInt32 >>> ((8 : Int32) &&& 31).toUInt32).toInt32)) (own_u8_x1 p)
  generalize (p &&& (255 : Int32)) = c0 at *
  generalize (((p.toUInt32 >>> ((8 : Int32) &&& 31).toUInt32).toInt32) &&& (255 : Int32)) = c1 at *
  generalize hx0 : own_x0 p = x0 at *
  generalize hx1 : own_x1 p = x1 at *
  unfold own_same own_eqv own_cs
  rw [hx0, hx1]
  by_cases h1 : (q &&& (1 : Int32)) = (0 : Int32) <;> by_cases h2 : (q &&& (2 : Int32)) = (0 : Int32) <;> by_cases h3 : x0 = (0 : Int32) <;> by_cases h4 : x1 = (0 : Int32) <;> simp [h1, h2, h3, h4, b0, b1]
theorem pn_0 : plainName "com/example/homethread/homethread/cli/ScenarioReportExitStatusPinLaw" = true := by first | (simp [plainName, overriddenIn]; done) | decide +kernel
theorem ef_1 (m : MethodId) (x0 : Int32) : entryFrame m #[(.int x0)] 1 = mkF m 0 #[.val (.int x0)] [] := by first | (simp [entryFrame, mkF, argsToLocals, Value.category]; done) | rfl
theorem d10_0 : decode method_3_code 0 = .ok (.iload_n 0, 1) := by decide +kernel
theorem d10_1 : decode method_3_code 1 = .ok (.bipush 16, 2) := by decide +kernel
theorem d10_3 : decode method_3_code 3 = .ok (.iushr, 1) := by decide +kernel
theorem d10_4 : decode method_3_code 4 = .ok (.iconst 1, 1) := by decide +kernel
theorem d10_5 : decode method_3_code 5 = .ok (.iand, 1) := by decide +kernel
theorem d10_6 : decode method_3_code 6 = .ok (.ifCond .eq 14, 3) := by decide +kernel
theorem d10_20 : decode method_3_code 20 = .ok (.iconst 0, 1) := by decide +kernel
theorem d10_21 : decode method_3_code 21 = .ok (.ireturn, 1) := by decide +kernel
theorem d10_9 : decode method_3_code 9 = .ok (.iload_n 0, 1) := by decide +kernel
theorem d10_10 : decode method_3_code 10 = .ok (.bipush 17, 2) := by decide +kernel
theorem d10_12 : decode method_3_code 12 = .ok (.iushr, 1) := by decide +kernel
theorem d10_13 : decode method_3_code 13 = .ok (.sipush 255, 3) := by decide +kernel
theorem d10_16 : decode method_3_code 16 = .ok (.iand, 1) := by decide +kernel
theorem d10_17 : decode method_3_code 17 = .ok (.goto 4, 3) := by decide +kernel
def Q_x0 (Z : State) (xp : Int32) (h0 : Heap) (n0 : Nat) (v : Option Value) (h : Heap) (L : List Loc) : Prop := v = some (.int (own_x0 xp)) ∧ Fr n0 L ∧ h = h0
set_option maxRecDepth 65536 in
set_option maxHeartbeats 40000000 in
theorem rm_x0 (l : Launch) (Z : State) (a0 : Array Value) (hw : ∀ d ∈ tables_1, d.before a0 Z = true) (ws : List Jvm.Cond) (xp : Int32) (h0 : Heap) (n0 : Nat) (O0 : Old Z n0 h0) :
    MetFree l (⟨"com/example/homethread/homethread/cli/ScenarioReportExitStatusPinLaw", "x0", "(I)I"⟩ : MethodName) (head1 (Jvm.Cond.code (⟨"com/example/homethread/homethread/cli/ScenarioReportExitStatusPinLaw", "x0", "(I)I"⟩ : MethodName) method_3_code 1 (some .int) :: ws) ({ frames := 0, cells := 0, slots := 0, locals := 0 } : Room)) (fun a U => a = #[(.int xp)] ∧ Z.Warmed39 U.vm ∧ U.heap = h0) (fun _ _ _ _ _ => True) (fun _ U o U' => ∃ v L, o = .returned v ∧ Q_x0 Z xp h0 n0 v U'.heap L ∧ FrameEnd U o U' L ({ frames := 0, cells := 0, slots := 0, locals := 0 } : Room).cells ({ frames := 0, cells := 0, slots := 0, locals := 0 } : Room).slots) := by
  refine MetFree.of_bodySF (plainFor_of_name pn_0) hisR ?_
  intro p e s m args below meth c s₁ Bd hml0 hP hK
  have W := fun {d : Jvm.Cond} (i : Nat) (q : tables_1[i]? = some d) => hw d (List.mem_of_getElem? q)
  obtain ⟨rfl, hZ, hh⟩ := hP
  have hx := Bd.exec
  have hby := Bd.bytes
  have hml : c.maxLocals = 1 := hml0
  have hown : s.vm.findClass "com/example/homethread/homethread/cli/ScenarioReportExitStatusPinLaw" = some m.cls := findClass_of_methodNamed Bd.named
  have hnm := (name_of_methodNamed Bd.named Bd.method).1
  have X0 : Stand p l e ({ frames := 0, cells := 0, slots := 0, locals := 0 } : Room) s m #[(.int xp)] below meth c s₁ [] 0 0 := Stand.of_body Bd
  have e0 : s₁.heap = h0 := by rw [← hh, Bd.state]; rfl
  have N0 := Fr.nil n0
  have pre0 : ∀ t, Steps p.tables e below (s₁.setTop (mkF m 0 #[iv xp] [])) t → Steps p.tables e below (s₁.setTop (entryFrame m #[(.int xp)] 1)) t := fun t k => castTop (ef_1 m xp) k
  have K0 : Keep h0 h0 [] := Keep.refl h0 []
  have pre1 : ∀ t, Steps p.tables e below (s₁.setTop (mkF m 6 #[iv xp] [(.int (((xp.toUInt32 >>> ((16 : Int32) &&& 31).toUInt32).toInt32) &&& (1 : Int32)))])) t → Steps p.tables e below (s₁.setTop (entryFrame m #[(.int xp)] 1)) t := fun t kt => by
    refine pre0 _ ?_
    show Steps p.tables e below (s₁.setTop (mkF m 0 #[iv xp] [])) _
    refine XS.iloadN X0.here hx rfl (hb hby d10_0) rfl ?_
    refine XS.bipush X0.here hx rfl (hb hby d10_1) ?_
    refine XS.iushr X0.here hx rfl (hb hby d10_3) rfl ?_
    refine XS.iconst X0.here hx rfl (hb hby d10_4) ?_
    refine XS.iand X0.here hx rfl (hb hby d10_5) rfl ?_
    exact kt
  by_cases hc2 : (((xp.toUInt32 >>> ((16 : Int32) &&& 31).toUInt32).toInt32) &&& (1 : Int32)) = (0 : Int32)
  · have pre3 : ∀ t, Steps p.tables e below (s₁.setTop (mkF m 21 #[iv xp] [(.int (0 : Int32))])) t → Steps p.tables e below (s₁.setTop (entryFrame m #[(.int xp)] 1)) t := fun t kt => by
      refine pre1 _ ?_
      show Steps p.tables e below (s₁.setTop (mkF m 6 #[iv xp] [(.int (((xp.toUInt32 >>> ((16 : Int32) &&& 31).toUInt32).toInt32) &&& (1 : Int32)))])) _
      refine XS.ifYes X0.here hx rfl (pc0 := 6) (pc' := 20) rfl (hb hby d10_6) rfl (XT.i0_eq_t hc2) (by decide) (by decide) ?_
      refine XS.iconst X0.here hx rfl (hb hby d10_20) ?_
      exact kt
    -- returns (.int (0 : Int32)), wanted (.int (own_x0 xp))
    obtain ⟨fs, hr, hrun, hended, hW, hsame⟩ := X0.leave (v := some (.int (0 : Int32))) (fun h => by rw [Bd.returns] at h; cases h)
    refine ⟨_, _, pre3 _ (retI X0 hx Bd.returns (hb hby d10_21) hr), hrun, hended, _, _, rfl, ?_, ⟨_, rfl⟩, hW, hsame.mono (by decide) (by decide)⟩
    show Q_x0 Z xp h0 n0 _ s₁.heap _
    rw [e0]
    exact ⟨(congrArg (fun z => some (Value.int z)) (if_pos hc2).symm), N0, rfl⟩
  · have pre4 : ∀ t, Steps p.tables e below (s₁.setTop (mkF m 21 #[iv xp] [(.int (((xp.toUInt32 >>> ((17 : Int32) &&& 31).toUInt32).toInt32) &&& (255 : Int32)))])) t → Steps p.tables e below (s₁.setTop (entryFrame m #[(.int xp)] 1)) t := fun t kt => by
      refine pre1 _ ?_
      show Steps p.tables e below (s₁.setTop (mkF m 6 #[iv xp] [(.int (((xp.toUInt32 >>> ((16 : Int32) &&& 31).toUInt32).toInt32) &&& (1 : Int32)))])) _
      refine XS.ifNo X0.here hx rfl (hb hby d10_6) rfl (XT.i0_eq_f hc2) ?_
      refine XS.iloadN X0.here hx rfl (hb hby d10_9) rfl ?_
      refine XS.bipush X0.here hx rfl (hb hby d10_10) ?_
      refine XS.iushr X0.here hx rfl (hb hby d10_12) rfl ?_
      refine XS.sipush X0.here hx rfl (hb hby d10_13) ?_
      refine XS.iand X0.here hx rfl (hb hby d10_16) rfl ?_
      refine XS.goto X0.here hx rfl (pc0 := 17) (pc' := 21) rfl (hb hby d10_17) (by decide) (by decide) ?_
      exact kt
    -- returns (.int (((xp.toUInt32 >>> ((17 : Int32) &&& 31).toUInt32).toInt32) &&& (255 : Int32))), wanted (.int (own_x0 xp))
    obtain ⟨fs, hr, hrun, hended, hW, hsame⟩ := X0.leave (v := some (.int (((xp.toUInt32 >>> ((17 : Int32) &&& 31).toUInt32).toInt32) &&& (255 : Int32)))) (fun h => by rw [Bd.returns] at h; cases h)
    refine ⟨_, _, pre4 _ (retI X0 hx Bd.returns (hb hby d10_21) hr), hrun, hended, _, _, rfl, ?_, ⟨_, rfl⟩, hW, hsame.mono (by decide) (by decide)⟩
    show Q_x0 Z xp h0 n0 _ s₁.heap _
    rw [e0]
    exact ⟨(congrArg (fun z => some (Value.int z)) (if_neg hc2).symm), N0, rfl⟩
theorem ef_2 (m : MethodId) (x0 : Int32) : entryFrame m #[(.int x0)] 1 = mkF m 0 #[.val (.int x0)] [] := by first | (simp [entryFrame, mkF, argsToLocals, Value.category]; done) | rfl
theorem d11_0 : decode method_4_code 0 = .ok (.iload_n 0, 1) := by decide +kernel
theorem d11_1 : decode method_4_code 1 = .ok (.bipush 16, 2) := by decide +kernel
theorem d11_3 : decode method_4_code 3 = .ok (.iushr, 1) := by decide +kernel
theorem d11_4 : decode method_4_code 4 = .ok (.iconst 1, 1) := by decide +kernel
theorem d11_5 : decode method_4_code 5 = .ok (.iand, 1) := by decide +kernel
theorem d11_6 : decode method_4_code 6 = .ok (.ifCond .eq 13, 3) := by decide +kernel
theorem d11_19 : decode method_4_code 19 = .ok (.iconst 0, 1) := by decide +kernel
theorem d11_20 : decode method_4_code 20 = .ok (.ireturn, 1) := by decide +kernel
theorem d11_9 : decode method_4_code 9 = .ok (.iload_n 0, 1) := by decide +kernel
theorem d11_10 : decode method_4_code 10 = .ok (.bipush 25, 2) := by decide +kernel
theorem d11_12 : decode method_4_code 12 = .ok (.iushr, 1) := by decide +kernel
theorem d11_13 : decode method_4_code 13 = .ok (.bipush 127, 2) := by decide +kernel
theorem d11_15 : decode method_4_code 15 = .ok (.iand, 1) := by decide +kernel
theorem d11_16 : decode method_4_code 16 = .ok (.goto 4, 3) := by decide +kernel
def Q_x1 (Z : State) (xp : Int32) (h0 : Heap) (n0 : Nat) (v : Option Value) (h : Heap) (L : List Loc) : Prop := v = some (.int (own_x1 xp)) ∧ Fr n0 L ∧ h = h0
set_option maxRecDepth 65536 in
set_option maxHeartbeats 40000000 in
theorem rm_x1 (l : Launch) (Z : State) (a0 : Array Value) (hw : ∀ d ∈ tables_1, d.before a0 Z = true) (ws : List Jvm.Cond) (xp : Int32) (h0 : Heap) (n0 : Nat) (O0 : Old Z n0 h0) :
    MetFree l (⟨"com/example/homethread/homethread/cli/ScenarioReportExitStatusPinLaw", "x1", "(I)I"⟩ : MethodName) (head1 (Jvm.Cond.code (⟨"com/example/homethread/homethread/cli/ScenarioReportExitStatusPinLaw", "x1", "(I)I"⟩ : MethodName) method_4_code 1 (some .int) :: ws) ({ frames := 0, cells := 0, slots := 0, locals := 0 } : Room)) (fun a U => a = #[(.int xp)] ∧ Z.Warmed39 U.vm ∧ U.heap = h0) (fun _ _ _ _ _ => True) (fun _ U o U' => ∃ v L, o = .returned v ∧ Q_x1 Z xp h0 n0 v U'.heap L ∧ FrameEnd U o U' L ({ frames := 0, cells := 0, slots := 0, locals := 0 } : Room).cells ({ frames := 0, cells := 0, slots := 0, locals := 0 } : Room).slots) := by
  refine MetFree.of_bodySF (plainFor_of_name pn_0) hisR ?_
  intro p e s m args below meth c s₁ Bd hml0 hP hK
  have W := fun {d : Jvm.Cond} (i : Nat) (q : tables_1[i]? = some d) => hw d (List.mem_of_getElem? q)
  obtain ⟨rfl, hZ, hh⟩ := hP
  have hx := Bd.exec
  have hby := Bd.bytes
  have hml : c.maxLocals = 1 := hml0
  have hown : s.vm.findClass "com/example/homethread/homethread/cli/ScenarioReportExitStatusPinLaw" = some m.cls := findClass_of_methodNamed Bd.named
  have hnm := (name_of_methodNamed Bd.named Bd.method).1
  have X0 : Stand p l e ({ frames := 0, cells := 0, slots := 0, locals := 0 } : Room) s m #[(.int xp)] below meth c s₁ [] 0 0 := Stand.of_body Bd
  have e0 : s₁.heap = h0 := by rw [← hh, Bd.state]; rfl
  have N0 := Fr.nil n0
  have pre0 : ∀ t, Steps p.tables e below (s₁.setTop (mkF m 0 #[iv xp] [])) t → Steps p.tables e below (s₁.setTop (entryFrame m #[(.int xp)] 1)) t := fun t k => castTop (ef_2 m xp) k
  have K0 : Keep h0 h0 [] := Keep.refl h0 []
  have pre5 : ∀ t, Steps p.tables e below (s₁.setTop (mkF m 6 #[iv xp] [(.int (((xp.toUInt32 >>> ((16 : Int32) &&& 31).toUInt32).toInt32) &&& (1 : Int32)))])) t → Steps p.tables e below (s₁.setTop (entryFrame m #[(.int xp)] 1)) t := fun t kt => by
    refine pre0 _ ?_
    show Steps p.tables e below (s₁.setTop (mkF m 0 #[iv xp] [])) _
    refine XS.iloadN X0.here hx rfl (hb hby d11_0) rfl ?_
    refine XS.bipush X0.here hx rfl (hb hby d11_1) ?_
    refine XS.iushr X0.here hx rfl (hb hby d11_3) rfl ?_
    refine XS.iconst X0.here hx rfl (hb hby d11_4) ?_
    refine XS.iand X0.here hx rfl (hb hby d11_5) rfl ?_
    exact kt
  by_cases hc6 : (((xp.toUInt32 >>> ((16 : Int32) &&& 31).toUInt32).toInt32) &&& (1 : Int32)) = (0 : Int32)
  · have pre7 : ∀ t, Steps p.tables e below (s₁.setTop (mkF m 20 #[iv xp] [(.int (0 : Int32))])) t → Steps p.tables e below (s₁.setTop (entryFrame m #[(.int xp)] 1)) t := fun t kt => by
      refine pre5 _ ?_
      show Steps p.tables e below (s₁.setTop (mkF m 6 #[iv xp] [(.int (((xp.toUInt32 >>> ((16 : Int32) &&& 31).toUInt32).toInt32) &&& (1 : Int32)))])) _
      refine XS.ifYes X0.here hx rfl (pc0 := 6) (pc' := 19) rfl (hb hby d11_6) rfl (XT.i0_eq_t hc6) (by decide) (by decide) ?_
      refine XS.iconst X0.here hx rfl (hb hby d11_19) ?_
      exact kt
    -- returns (.int (0 : Int32)), wanted (.int (own_x1 xp))
    obtain ⟨fs, hr, hrun, hended, hW, hsame⟩ := X0.leave (v := some (.int (0 : Int32))) (fun h => by rw [Bd.returns] at h; cases h)
    refine ⟨_, _, pre7 _ (retI X0 hx Bd.returns (hb hby d11_20) hr), hrun, hended, _, _, rfl, ?_, ⟨_, rfl⟩, hW, hsame.mono (by decide) (by decide)⟩
    show Q_x1 Z xp h0 n0 _ s₁.heap _
    rw [e0]
    exact ⟨(congrArg (fun z => some (Value.int z)) (if_pos hc6).symm), N0, rfl⟩
  · have pre8 : ∀ t, Steps p.tables e below (s₁.setTop (mkF m 20 #[iv xp] [(.int (((xp.toUInt32 >>> ((25 : Int32) &&& 31).toUInt32).toInt32) &&& (127 : Int32)))])) t → Steps p.tables e below (s₁.setTop (entryFrame m #[(.int xp)] 1)) t := fun t kt => by
      refine pre5 _ ?_
      show Steps p.tables e below (s₁.setTop (mkF m 6 #[iv xp] [(.int (((xp.toUInt32 >>> ((16 : Int32) &&& 31).toUInt32).toInt32) &&& (1 : Int32)))])) _
      refine XS.ifNo X0.here hx rfl (hb hby d11_6) rfl (XT.i0_eq_f hc6) ?_
      refine XS.iloadN X0.here hx rfl (hb hby d11_9) rfl ?_
      refine XS.bipush X0.here hx rfl (hb hby d11_10) ?_
      refine XS.iushr X0.here hx rfl (hb hby d11_12) rfl ?_
      refine XS.bipush X0.here hx rfl (hb hby d11_13) ?_
      refine XS.iand X0.here hx rfl (hb hby d11_15) rfl ?_
      refine XS.goto X0.here hx rfl (pc0 := 16) (pc' := 20) rfl (hb hby d11_16) (by decide) (by decide) ?_
      exact kt
    -- returns (.int (((xp.toUInt32 >>> ((25 : Int32) &&& 31).toUInt32).toInt32) &&& (127 : Int32))), wanted (.int (own_x1 xp))
    obtain ⟨fs, hr, hrun, hended, hW, hsame⟩ := X0.leave (v := some (.int (((xp.toUInt32 >>> ((25 : Int32) &&& 31).toUInt32).toInt32) &&& (127 : Int32)))) (fun h => by rw [Bd.returns] at h; cases h)
    refine ⟨_, _, pre8 _ (retI X0 hx Bd.returns (hb hby d11_20) hr), hrun, hended, _, _, rfl, ?_, ⟨_, rfl⟩, hW, hsame.mono (by decide) (by decide)⟩
    show Q_x1 Z xp h0 n0 _ s₁.heap _
    rw [e0]
    exact ⟨(congrArg (fun z => some (Value.int z)) (if_neg hc6).symm), N0, rfl⟩
theorem ef_3 (m : MethodId) (x0 : Int32) (x1 : Int32) : entryFrame m #[(.int x0), (.int x1)] 4 = mkF m 0 #[.val (.int x0), .val (.int x1), .unset, .unset] [] := by first | (simp [entryFrame, mkF, argsToLocals, Value.category]; done) | rfl
theorem d12_0 : decode method_7_code 0 = .ok (.iload_n 1, 1) := by decide +kernel
theorem d12_1 : decode method_7_code 1 = .ok (.iconst 1, 1) := by decide +kernel
theorem d12_2 : decode method_7_code 2 = .ok (.iand, 1) := by decide +kernel
theorem d12_3 : decode method_7_code 3 = .ok (.ifCond .eq 7, 3) := by decide +kernel
theorem d12_10 : decode method_7_code 10 = .ok (.iconst 0, 1) := by decide +kernel
theorem d12_11 : decode method_7_code 11 = .ok (.istore_n 2, 1) := by decide +kernel
theorem d12_12 : decode method_7_code 12 = .ok (.iload_n 1, 1) := by decide +kernel
theorem d12_13 : decode method_7_code 13 = .ok (.iconst 2, 1) := by decide +kernel
theorem d12_14 : decode method_7_code 14 = .ok (.iand, 1) := by decide +kernel
theorem d12_15 : decode method_7_code 15 = .ok (.ifCond .eq 7, 3) := by decide +kernel
theorem d12_22 : decode method_7_code 22 = .ok (.iconst 0, 1) := by decide +kernel
theorem d12_23 : decode method_7_code 23 = .ok (.istore_n 3, 1) := by decide +kernel
theorem d12_24 : decode method_7_code 24 = .ok (.iload_n 2, 1) := by decide +kernel
theorem d12_25 : decode method_7_code 25 = .ok (.iload_n 3, 1) := by decide +kernel
theorem d12_26 : decode method_7_code 26 = .ok (.if_icmp .ne 25, 3) := by decide +kernel
theorem d12_29 : decode method_7_code 29 = .ok (.iload_n 0, 1) := by decide +kernel
theorem d12_30 : decode method_7_code 30 = .ok (.invokestatic 18, 3) := by decide +kernel
theorem pd_4 : parseMethodDescriptor "(I)I" = some ⟨[.int], some .int⟩ := by decide +kernel
theorem d12_33 : decode method_7_code 33 = .ok (.ifCond .ne 18, 3) := by decide +kernel
theorem d12_36 : decode method_7_code 36 = .ok (.iload_n 2, 1) := by decide +kernel
theorem d12_37 : decode method_7_code 37 = .ok (.ifCond .eq 10, 3) := by decide +kernel
theorem d12_47 : decode method_7_code 47 = .ok (.iconst 1, 1) := by decide +kernel
theorem d12_48 : decode method_7_code 48 = .ok (.goto 4, 3) := by decide +kernel
theorem d12_52 : decode method_7_code 52 = .ok (.ireturn, 1) := by decide +kernel
theorem d12_51 : decode method_7_code 51 = .ok (.iconst 0, 1) := by decide +kernel
theorem d12_18 : decode method_7_code 18 = .ok (.iconst 1, 1) := by decide +kernel
theorem d12_19 : decode method_7_code 19 = .ok (.goto 4, 3) := by decide +kernel
theorem d12_6 : decode method_7_code 6 = .ok (.iconst 1, 1) := by decide +kernel
theorem d12_7 : decode method_7_code 7 = .ok (.goto 4, 3) := by decide +kernel
theorem d12_40 : decode method_7_code 40 = .ok (.iload_n 0, 1) := by decide +kernel
theorem d12_41 : decode method_7_code 41 = .ok (.invokestatic 22, 3) := by decide +kernel
theorem d12_44 : decode method_7_code 44 = .ok (.ifCond .ne 7, 3) := by decide +kernel
def Q_same (Z : State) (xp : Int32) (xl : Int32) (h0 : Heap) (n0 : Nat) (v : Option Value) (h : Heap) (L : List Loc) : Prop := v = some (.int (own_same xp xl)) ∧ Fr n0 L ∧ h = h0
set_option maxRecDepth 65536 in
set_option maxHeartbeats 40000000 in
theorem rm_same (l : Launch) (Z : State) (a0 : Array Value) (hw : ∀ d ∈ tables_1, d.before a0 Z = true) (ws : List Jvm.Cond) (xp : Int32) (xl : Int32) (h0 : Heap) (n0 : Nat) (O0 : Old Z n0 h0) :
    MetFree l (⟨"com/example/homethread/homethread/cli/ScenarioReportExitStatusPinLaw", "same", "(II)Z"⟩ : MethodName) (head1 (Jvm.Cond.code (⟨"com/example/homethread/homethread/cli/ScenarioReportExitStatusPinLaw", "same", "(II)Z"⟩ : MethodName) method_7_code 4 (some .boolean) :: ws) ({ frames := 1, cells := 0, slots := 0, locals := 12 } : Room)) (fun a U => a = #[(.int xp), (.int xl)] ∧ Z.Warmed39 U.vm ∧ U.heap = h0) (fun _ _ _ _ _ => True) (fun _ U o U' => ∃ v L, o = .returned v ∧ Q_same Z xp xl h0 n0 v U'.heap L ∧ FrameEnd U o U' L ({ frames := 1, cells := 0, slots := 0, locals := 12 } : Room).cells ({ frames := 1, cells := 0, slots := 0, locals := 12 } : Room).slots) := by
  refine MetFree.of_bodySF (plainFor_of_name pn_0) hisR ?_
  intro p e s m args below meth c s₁ Bd hml0 hP hK
  have W := fun {d : Jvm.Cond} (i : Nat) (q : tables_1[i]? = some d) => hw d (List.mem_of_getElem? q)
  obtain ⟨rfl, hZ, hh⟩ := hP
  have hx := Bd.exec
  have hby := Bd.bytes
  have hml : c.maxLocals = 4 := hml0
  have hown : s.vm.findClass "com/example/homethread/homethread/cli/ScenarioReportExitStatusPinLaw" = some m.cls := findClass_of_methodNamed Bd.named
  have hnm := (name_of_methodNamed Bd.named Bd.method).1
  have X0 : Stand p l e ({ frames := 1, cells := 0, slots := 0, locals := 12 } : Room) s m #[(.int xp), (.int xl)] below meth c s₁ [] 0 0 := Stand.of_body Bd
  have e0 : s₁.heap = h0 := by rw [← hh, Bd.state]; rfl
  have N0 := Fr.nil n0
  have pre0 : ∀ t, Steps p.tables e below (s₁.setTop (mkF m 0 #[iv xp, iv xl, .unset, .unset] [])) t → Steps p.tables e below (s₁.setTop (entryFrame m #[(.int xp), (.int xl)] 4)) t := fun t k => castTop (ef_3 m xp xl) k
  have K0 : Keep h0 h0 [] := Keep.refl h0 []
  have pre9 : ∀ t, Steps p.tables e below (s₁.setTop (mkF m 3 #[iv xp, iv xl, .unset, .unset] [(.int (xl &&& (1 : Int32)))])) t → Steps p.tables e below (s₁.setTop (entryFrame m #[(.int xp), (.int xl)] 4)) t := fun t kt => by
    refine pre0 _ ?_
    show Steps p.tables e below (s₁.setTop (mkF m 0 #[iv xp, iv xl, .unset, .unset] [])) _
    refine XS.iloadN X0.here hx rfl (hb hby d12_0) rfl ?_
    refine XS.iconst X0.here hx rfl (hb hby d12_1) ?_
    refine XS.iand X0.here hx rfl (hb hby d12_2) rfl ?_
    exact kt
  by_cases hc10 : (xl &&& (1 : Int32)) = (0 : Int32)
  · have pre11 : ∀ t, Steps p.tables e below (s₁.setTop (mkF m 15 #[iv xp, iv xl, iv (0 : Int32), .unset] [(.int (xl &&& (2 : Int32)))])) t → Steps p.tables e below (s₁.setTop (entryFrame m #[(.int xp), (.int xl)] 4)) t := fun t kt => by
      refine pre9 _ ?_
      show Steps p.tables e below (s₁.setTop (mkF m 3 #[iv xp, iv xl, .unset, .unset] [(.int (xl &&& (1 : Int32)))])) _
      refine XS.ifYes X0.here hx rfl (pc0 := 3) (pc' := 10) rfl (hb hby d12_3) rfl (XT.i0_eq_t hc10) (by decide) (by decide) ?_
      refine XS.iconst X0.here hx rfl (hb hby d12_10) ?_
      refine XS.istoreN X0.here hx rfl (hb hby d12_11) rfl (l' := #[iv xp, iv xl, iv (0 : Int32), .unset]) rfl ?_
      refine XS.iloadN X0.here hx rfl (hb hby d12_12) rfl ?_
      refine XS.iconst X0.here hx rfl (hb hby d12_13) ?_
      refine XS.iand X0.here hx rfl (hb hby d12_14) rfl ?_
      exact kt
    by_cases hc12 : (xl &&& (2 : Int32)) = (0 : Int32)
    · have pre13 : ∀ t, Steps p.tables e below (s₁.setTop (mkF m 30 #[iv xp, iv xl, iv (0 : Int32), iv (0 : Int32)] [(.int xp)])) t → Steps p.tables e below (s₁.setTop (entryFrame m #[(.int xp), (.int xl)] 4)) t := fun t kt => by
        refine pre11 _ ?_
        show Steps p.tables e below (s₁.setTop (mkF m 15 #[iv xp, iv xl, iv (0 : Int32), .unset] [(.int (xl &&& (2 : Int32)))])) _
        refine XS.ifYes X0.here hx rfl (pc0 := 15) (pc' := 22) rfl (hb hby d12_15) rfl (XT.i0_eq_t hc12) (by decide) (by decide) ?_
        refine XS.iconst X0.here hx rfl (hb hby d12_22) ?_
        refine XS.istoreN X0.here hx rfl (hb hby d12_23) rfl (l' := #[iv xp, iv xl, iv (0 : Int32), iv (0 : Int32)]) rfl ?_
        refine XS.iloadN X0.here hx rfl (hb hby d12_24) rfl ?_
        refine XS.iloadN X0.here hx rfl (hb hby d12_25) rfl ?_
        refine XS.icmpNo X0.here hx rfl (hb hby d12_26) rfl (XT.ii_ne_f (by decide)) ?_
        refine XS.iloadN X0.here hx rfl (hb hby d12_29) rfl ?_
        exact kt
      obtain ⟨_, _, ⟨T14, L14, k14, n14⟩, -, X14, ⟨Lc14, hQ14, l14, y14, z14⟩, st14⟩ := Jvm.LawKit.callS X0 hx (y := (⟨"com/example/homethread/homethread/cli/ScenarioReportExitStatusPinLaw", "x0", "(I)I"⟩ : MethodName)) hown (mvT hZ (W 40 rfl)) (mvT hZ (W 41 rfl)) (mvT hZ (W 2 rfl)) (mvT hZ (W 42 rfl)) (by decide) (backOf (W := 0) (rm_x0 l Z a0 hw [] xp h0 n0 O0) hZ (W 42 rfl) (W 2 rfl) (by decide) (by decide)) (g := (mkF m 30 #[iv xp, iv xl, iv (0 : Int32), iv (0 : Int32)] [(.int xp)])) rfl (by rw [hml]; rfl) (argsL := [(.int xp)]) (rest := []) (lenOf pd_4 rfl) rfl (by show 2 * 0 + _ ≤ _; exact Nat.le_of_eq rfl) (hb hby d12_30) (fun _ _ => ⟨rfl, e0, (by decide : 0 + 0 ≤ _), (by decide : 0 + 0 ≤ _)⟩)
      dsimp only [Pt.U, Pt.locs, Pt.cells, Pt.slots] at X14 l14 y14 z14 st14 hQ14
      subst l14 y14 z14
      obtain ⟨rfl, M14, e14⟩ := hQ14
      have N14 := Fr.app N0 M14
      have pre15 : ∀ t, Steps p.tables e below (T14.setTop (mkF m 33 #[iv xp, iv xl, iv (0 : Int32), iv (0 : Int32)] [(.int (own_x0 xp))])) t → Steps p.tables e below (s₁.setTop (entryFrame m #[(.int xp), (.int xl)] 4)) t := fun t kt => pre13 _ (st14 _ kt)
      by_cases hc16 : (own_x0 xp) = (0 : Int32)
      · have pre17 : ∀ t, Steps p.tables e below (T14.setTop (mkF m 52 #[iv xp, iv xl, iv (0 : Int32), iv (0 : Int32)] [(.int (1 : Int32))])) t → Steps p.tables e below (s₁.setTop (entryFrame m #[(.int xp), (.int xl)] 4)) t := fun t kt => by
          refine pre15 _ ?_
          show Steps p.tables e below (T14.setTop (mkF m 33 #[iv xp, iv xl, iv (0 : Int32), iv (0 : Int32)] [(.int (own_x0 xp))])) _
          refine XS.ifNo X14.here hx rfl (hb hby d12_33) rfl (XT.i0_ne_f hc16) ?_
          refine XS.iloadN X14.here hx rfl (hb hby d12_36) rfl ?_
          refine XS.ifYes X14.here hx rfl (pc0 := 37) (pc' := 47) rfl (hb hby d12_37) rfl (XT.i0_eq_t (by decide)) (by decide) (by decide) ?_
          refine XS.iconst X14.here hx rfl (hb hby d12_47) ?_
          refine XS.goto X14.here hx rfl (pc0 := 48) (pc' := 52) rfl (hb hby d12_48) (by decide) (by decide) ?_
          exact kt
        -- returns (.int (1 : Int32)), wanted (.int (own_same xp xl))
        obtain ⟨fs, hr, hrun, hended, hW, hsame⟩ := X14.leave (v := some (.int (1 : Int32))) (fun h => by rw [Bd.returns] at h; cases h)
        refine ⟨_, _, pre17 _ (retN X14 hx (t := .boolean) Bd.returns (by simp) (hb hby d12_52) hr), hrun, hended, _, _, rfl, ?_, ⟨_, rfl⟩, hW, hsame.mono (by decide) (by decide)⟩
        show Q_same Z xp xl h0 n0 _ T14.heap _
        rw [e14]
        exact ⟨(congrArg (fun z => some (Value.int z)) ((if_pos hc10).trans ((if_pos hc12).trans (if_pos hc16))).symm), N14, rfl⟩
      · have pre18 : ∀ t, Steps p.tables e below (T14.setTop (mkF m 52 #[iv xp, iv xl, iv (0 : Int32), iv (0 : Int32)] [(.int (0 : Int32))])) t → Steps p.tables e below (s₁.setTop (entryFrame m #[(.int xp), (.int xl)] 4)) t := fun t kt => by
          refine pre15 _ ?_
          show Steps p.tables e below (T14.setTop (mkF m 33 #[iv xp, iv xl, iv (0 : Int32), iv (0 : Int32)] [(.int (own_x0 xp))])) _
          refine XS.ifYes X14.here hx rfl (pc0 := 33) (pc' := 51) rfl (hb hby d12_33) rfl (XT.i0_ne_t hc16) (by decide) (by decide) ?_
          refine XS.iconst X14.here hx rfl (hb hby d12_51) ?_
          exact kt
        -- returns (.int (0 : Int32)), wanted (.int (own_same xp xl))
        obtain ⟨fs, hr, hrun, hended, hW, hsame⟩ := X14.leave (v := some (.int (0 : Int32))) (fun h => by rw [Bd.returns] at h; cases h)
        refine ⟨_, _, pre18 _ (retN X14 hx (t := .boolean) Bd.returns (by simp) (hb hby d12_52) hr), hrun, hended, _, _, rfl, ?_, ⟨_, rfl⟩, hW, hsame.mono (by decide) (by decide)⟩
        show Q_same Z xp xl h0 n0 _ T14.heap _
        rw [e14]
        exact ⟨(congrArg (fun z => some (Value.int z)) ((if_pos hc10).trans ((if_pos hc12).trans (if_neg hc16))).symm), N14, rfl⟩
    · have pre19 : ∀ t, Steps p.tables e below (s₁.setTop (mkF m 52 #[iv xp, iv xl, iv (0 : Int32), iv (1 : Int32)] [(.int (0 : Int32))])) t → Steps p.tables e below (s₁.setTop (entryFrame m #[(.int xp), (.int xl)] 4)) t := fun t kt => by
        refine pre11 _ ?_
        show Steps p.tables e below (s₁.setTop (mkF m 15 #[iv xp, iv xl, iv (0 : Int32), .unset] [(.int (xl &&& (2 : Int32)))])) _
        refine XS.ifNo X0.here hx rfl (hb hby d12_15) rfl (XT.i0_eq_f hc12) ?_
        refine XS.iconst X0.here hx rfl (hb hby d12_18) ?_
        refine XS.goto X0.here hx rfl (pc0 := 19) (pc' := 23) rfl (hb hby d12_19) (by decide) (by decide) ?_
        refine XS.istoreN X0.here hx rfl (hb hby d12_23) rfl (l' := #[iv xp, iv xl, iv (0 : Int32), iv (1 : Int32)]) rfl ?_
        refine XS.iloadN X0.here hx rfl (hb hby d12_24) rfl ?_
        refine XS.iloadN X0.here hx rfl (hb hby d12_25) rfl ?_
        refine XS.icmpYes X0.here hx rfl (pc0 := 26) (pc' := 51) rfl (hb hby d12_26) rfl (XT.ii_ne_t (by decide)) (by decide) (by decide) ?_
        refine XS.iconst X0.here hx rfl (hb hby d12_51) ?_
        exact kt
      -- returns (.int (0 : Int32)), wanted (.int (own_same xp xl))
      obtain ⟨fs, hr, hrun, hended, hW, hsame⟩ := X0.leave (v := some (.int (0 : Int32))) (fun h => by rw [Bd.returns] at h; cases h)
      refine ⟨_, _, pre19 _ (retN X0 hx (t := .boolean) Bd.returns (by simp) (hb hby d12_52) hr), hrun, hended, _, _, rfl, ?_, ⟨_, rfl⟩, hW, hsame.mono (by decide) (by decide)⟩
      show Q_same Z xp xl h0 n0 _ s₁.heap _
      rw [e0]
      exact ⟨(congrArg (fun z => some (Value.int z)) ((if_pos hc10).trans (if_neg hc12)).symm), N0, rfl⟩
  · have pre20 : ∀ t, Steps p.tables e below (s₁.setTop (mkF m 15 #[iv xp, iv xl, iv (1 : Int32), .unset] [(.int (xl &&& (2 : Int32)))])) t → Steps p.tables e below (s₁.setTop (entryFrame m #[(.int xp), (.int xl)] 4)) t := fun t kt => by
      refine pre9 _ ?_
      show Steps p.tables e below (s₁.setTop (mkF m 3 #[iv xp, iv xl, .unset, .unset] [(.int (xl &&& (1 : Int32)))])) _
      refine XS.ifNo X0.here hx rfl (hb hby d12_3) rfl (XT.i0_eq_f hc10) ?_
      refine XS.iconst X0.here hx rfl (hb hby d12_6) ?_
      refine XS.goto X0.here hx rfl (pc0 := 7) (pc' := 11) rfl (hb hby d12_7) (by decide) (by decide) ?_
      refine XS.istoreN X0.here hx rfl (hb hby d12_11) rfl (l' := #[iv xp, iv xl, iv (1 : Int32), .unset]) rfl ?_
      refine XS.iloadN X0.here hx rfl (hb hby d12_12) rfl ?_
      refine XS.iconst X0.here hx rfl (hb hby d12_13) ?_
      refine XS.iand X0.here hx rfl (hb hby d12_14) rfl ?_
      exact kt
    by_cases hc21 : (xl &&& (2 : Int32)) = (0 : Int32)
    · have pre22 : ∀ t, Steps p.tables e below (s₁.setTop (mkF m 52 #[iv xp, iv xl, iv (1 : Int32), iv (0 : Int32)] [(.int (0 : Int32))])) t → Steps p.tables e below (s₁.setTop (entryFrame m #[(.int xp), (.int xl)] 4)) t := fun t kt => by
        refine pre20 _ ?_
        show Steps p.tables e below (s₁.setTop (mkF m 15 #[iv xp, iv xl, iv (1 : Int32), .unset] [(.int (xl &&& (2 : Int32)))])) _
        refine XS.ifYes X0.here hx rfl (pc0 := 15) (pc' := 22) rfl (hb hby d12_15) rfl (XT.i0_eq_t hc21) (by decide) (by decide) ?_
        refine XS.iconst X0.here hx rfl (hb hby d12_22) ?_
        refine XS.istoreN X0.here hx rfl (hb hby d12_23) rfl (l' := #[iv xp, iv xl, iv (1 : Int32), iv (0 : Int32)]) rfl ?_
        refine XS.iloadN X0.here hx rfl (hb hby d12_24) rfl ?_
        refine XS.iloadN X0.here hx rfl (hb hby d12_25) rfl ?_
        refine XS.icmpYes X0.here hx rfl (pc0 := 26) (pc' := 51) rfl (hb hby d12_26) rfl (XT.ii_ne_t (by decide)) (by decide) (by decide) ?_
        refine XS.iconst X0.here hx rfl (hb hby d12_51) ?_
        exact kt
      -- returns (.int (0 : Int32)), wanted (.int (own_same xp xl))
      obtain ⟨fs, hr, hrun, hended, hW, hsame⟩ := X0.leave (v := some (.int (0 : Int32))) (fun h => by rw [Bd.returns] at h; cases h)
      refine ⟨_, _, pre22 _ (retN X0 hx (t := .boolean) Bd.returns (by simp) (hb hby d12_52) hr), hrun, hended, _, _, rfl, ?_, ⟨_, rfl⟩, hW, hsame.mono (by decide) (by decide)⟩
      show Q_same Z xp xl h0 n0 _ s₁.heap _
      rw [e0]
      exact ⟨(congrArg (fun z => some (Value.int z)) ((if_neg hc10).trans (if_pos hc21)).symm), N0, rfl⟩
    · have pre23 : ∀ t, Steps p.tables e below (s₁.setTop (mkF m 30 #[iv xp, iv xl, iv (1 : Int32), iv (1 : Int32)] [(.int xp)])) t → Steps p.tables e below (s₁.setTop (entryFrame m #[(.int xp), (.int xl)] 4)) t := fun t kt => by
        refine pre20 _ ?_
        show Steps p.tables e below (s₁.setTop (mkF m 15 #[iv xp, iv xl, iv (1 : Int32), .unset] [(.int (xl &&& (2 : Int32)))])) _
        refine XS.ifNo X0.here hx rfl (hb hby d12_15) rfl (XT.i0_eq_f hc21) ?_
        refine XS.iconst X0.here hx rfl (hb hby d12_18) ?_
        refine XS.goto X0.here hx rfl (pc0 := 19) (pc' := 23) rfl (hb hby d12_19) (by decide) (by decide) ?_
        refine XS.istoreN X0.here hx rfl (hb hby d12_23) rfl (l' := #[iv xp, iv xl, iv (1 : Int32), iv (1 : Int32)]) rfl ?_
        refine XS.iloadN X0.here hx rfl (hb hby d12_24) rfl ?_
        refine XS.iloadN X0.here hx rfl (hb hby d12_25) rfl ?_
        refine XS.icmpNo X0.here hx rfl (hb hby d12_26) rfl (XT.ii_ne_f (by decide)) ?_
        refine XS.iloadN X0.here hx rfl (hb hby d12_29) rfl ?_
        exact kt
      obtain ⟨_, _, ⟨T24, L24, k24, n24⟩, -, X24, ⟨Lc24, hQ24, l24, y24, z24⟩, st24⟩ := Jvm.LawKit.callS X0 hx (y := (⟨"com/example/homethread/homethread/cli/ScenarioReportExitStatusPinLaw", "x0", "(I)I"⟩ : MethodName)) hown (mvT hZ (W 40 rfl)) (mvT hZ (W 41 rfl)) (mvT hZ (W 2 rfl)) (mvT hZ (W 42 rfl)) (by decide) (backOf (W := 0) (rm_x0 l Z a0 hw [] xp h0 n0 O0) hZ (W 42 rfl) (W 2 rfl) (by decide) (by decide)) (g := (mkF m 30 #[iv xp, iv xl, iv (1 : Int32), iv (1 : Int32)] [(.int xp)])) rfl (by rw [hml]; rfl) (argsL := [(.int xp)]) (rest := []) (lenOf pd_4 rfl) rfl (by show 2 * 0 + _ ≤ _; exact Nat.le_of_eq rfl) (hb hby d12_30) (fun _ _ => ⟨rfl, e0, (by decide : 0 + 0 ≤ _), (by decide : 0 + 0 ≤ _)⟩)
      dsimp only [Pt.U, Pt.locs, Pt.cells, Pt.slots] at X24 l24 y24 z24 st24 hQ24
      subst l24 y24 z24
      obtain ⟨rfl, M24, e24⟩ := hQ24
      have N24 := Fr.app N0 M24
      have pre25 : ∀ t, Steps p.tables e below (T24.setTop (mkF m 33 #[iv xp, iv xl, iv (1 : Int32), iv (1 : Int32)] [(.int (own_x0 xp))])) t → Steps p.tables e below (s₁.setTop (entryFrame m #[(.int xp), (.int xl)] 4)) t := fun t kt => pre23 _ (st24 _ kt)
      by_cases hc26 : (own_x0 xp) = (0 : Int32)
      · have pre27 : ∀ t, Steps p.tables e below (T24.setTop (mkF m 41 #[iv xp, iv xl, iv (1 : Int32), iv (1 : Int32)] [(.int xp)])) t → Steps p.tables e below (s₁.setTop (entryFrame m #[(.int xp), (.int xl)] 4)) t := fun t kt => by
          refine pre25 _ ?_
          show Steps p.tables e below (T24.setTop (mkF m 33 #[iv xp, iv xl, iv (1 : Int32), iv (1 : Int32)] [(.int (own_x0 xp))])) _
          refine XS.ifNo X24.here hx rfl (hb hby d12_33) rfl (XT.i0_ne_f hc26) ?_
          refine XS.iloadN X24.here hx rfl (hb hby d12_36) rfl ?_
          refine XS.ifNo X24.here hx rfl (hb hby d12_37) rfl (XT.i0_eq_f (by decide)) ?_
          refine XS.iloadN X24.here hx rfl (hb hby d12_40) rfl ?_
          exact kt
        obtain ⟨_, _, ⟨T28, L28, k28, n28⟩, -, X28, ⟨Lc28, hQ28, l28, y28, z28⟩, st28⟩ := Jvm.LawKit.callS X24 hx (y := (⟨"com/example/homethread/homethread/cli/ScenarioReportExitStatusPinLaw", "x1", "(I)I"⟩ : MethodName)) hown (mvT hZ (W 43 rfl)) (mvT hZ (W 44 rfl)) (mvT hZ (W 2 rfl)) (mvT hZ (W 45 rfl)) (by decide) (backOf (W := 0) (rm_x1 l Z a0 hw [] xp h0 n0 O0) hZ (W 45 rfl) (W 2 rfl) (by decide) (by decide)) (g := (mkF m 41 #[iv xp, iv xl, iv (1 : Int32), iv (1 : Int32)] [(.int xp)])) rfl (by rw [hml]; rfl) (argsL := [(.int xp)]) (rest := []) (lenOf pd_4 rfl) rfl (by show 2 * 0 + _ ≤ _; exact Nat.le_of_eq rfl) (hb hby d12_41) (fun _ _ => ⟨rfl, e24, (by decide : 0 + 0 ≤ _), (by decide : 0 + 0 ≤ _)⟩)
        dsimp only [Pt.U, Pt.locs, Pt.cells, Pt.slots] at X28 l28 y28 z28 st28 hQ28
        subst l28 y28 z28
        obtain ⟨rfl, M28, e28⟩ := hQ28
        have N28 := Fr.app N24 M28
        have pre29 : ∀ t, Steps p.tables e below (T28.setTop (mkF m 44 #[iv xp, iv xl, iv (1 : Int32), iv (1 : Int32)] [(.int (own_x1 xp))])) t → Steps p.tables e below (s₁.setTop (entryFrame m #[(.int xp), (.int xl)] 4)) t := fun t kt => pre27 _ (st28 _ kt)
        by_cases hc30 : (own_x1 xp) = (0 : Int32)
        · have pre31 : ∀ t, Steps p.tables e below (T28.setTop (mkF m 52 #[iv xp, iv xl, iv (1 : Int32), iv (1 : Int32)] [(.int (1 : Int32))])) t → Steps p.tables e below (s₁.setTop (entryFrame m #[(.int xp), (.int xl)] 4)) t := fun t kt => by
            refine pre29 _ ?_
            show Steps p.tables e below (T28.setTop (mkF m 44 #[iv xp, iv xl, iv (1 : Int32), iv (1 : Int32)] [(.int (own_x1 xp))])) _
            refine XS.ifNo X28.here hx rfl (hb hby d12_44) rfl (XT.i0_ne_f hc30) ?_
            refine XS.iconst X28.here hx rfl (hb hby d12_47) ?_
            refine XS.goto X28.here hx rfl (pc0 := 48) (pc' := 52) rfl (hb hby d12_48) (by decide) (by decide) ?_
            exact kt
          -- returns (.int (1 : Int32)), wanted (.int (own_same xp xl))
          obtain ⟨fs, hr, hrun, hended, hW, hsame⟩ := X28.leave (v := some (.int (1 : Int32))) (fun h => by rw [Bd.returns] at h; cases h)
          refine ⟨_, _, pre31 _ (retN X28 hx (t := .boolean) Bd.returns (by simp) (hb hby d12_52) hr), hrun, hended, _, _, rfl, ?_, ⟨_, rfl⟩, hW, hsame.mono (by decide) (by decide)⟩
          show Q_same Z xp xl h0 n0 _ T28.heap _
          rw [e28]
          exact ⟨(congrArg (fun z => some (Value.int z)) ((if_neg hc10).trans ((if_neg hc21).trans ((if_pos hc26).trans (if_pos hc30)))).symm), N28, rfl⟩
        · have pre32 : ∀ t, Steps p.tables e below (T28.setTop (mkF m 52 #[iv xp, iv xl, iv (1 : Int32), iv (1 : Int32)] [(.int (0 : Int32))])) t → Steps p.tables e below (s₁.setTop (entryFrame m #[(.int xp), (.int xl)] 4)) t := fun t kt => by
            refine pre29 _ ?_
            show Steps p.tables e below (T28.setTop (mkF m 44 #[iv xp, iv xl, iv (1 : Int32), iv (1 : Int32)] [(.int (own_x1 xp))])) _
            refine XS.ifYes X28.here hx rfl (pc0 := 44) (pc' := 51) rfl (hb hby d12_44) rfl (XT.i0_ne_t hc30) (by decide) (by decide) ?_
            refine XS.iconst X28.here hx rfl (hb hby d12_51) ?_
            exact kt
          -- returns (.int (0 : Int32)), wanted (.int (own_same xp xl))
          obtain ⟨fs, hr, hrun, hended, hW, hsame⟩ := X28.leave (v := some (.int (0 : Int32))) (fun h => by rw [Bd.returns] at h; cases h)
          refine ⟨_, _, pre32 _ (retN X28 hx (t := .boolean) Bd.returns (by simp) (hb hby d12_52) hr), hrun, hended, _, _, rfl, ?_, ⟨_, rfl⟩, hW, hsame.mono (by decide) (by decide)⟩
          show Q_same Z xp xl h0 n0 _ T28.heap _
          rw [e28]
          exact ⟨(congrArg (fun z => some (Value.int z)) ((if_neg hc10).trans ((if_neg hc21).trans ((if_pos hc26).trans (if_neg hc30)))).symm), N28, rfl⟩
      · have pre33 : ∀ t, Steps p.tables e below (T24.setTop (mkF m 52 #[iv xp, iv xl, iv (1 : Int32), iv (1 : Int32)] [(.int (0 : Int32))])) t → Steps p.tables e below (s₁.setTop (entryFrame m #[(.int xp), (.int xl)] 4)) t := fun t kt => by
          refine pre25 _ ?_
          show Steps p.tables e below (T24.setTop (mkF m 33 #[iv xp, iv xl, iv (1 : Int32), iv (1 : Int32)] [(.int (own_x0 xp))])) _
          refine XS.ifYes X24.here hx rfl (pc0 := 33) (pc' := 51) rfl (hb hby d12_33) rfl (XT.i0_ne_t hc26) (by decide) (by decide) ?_
          refine XS.iconst X24.here hx rfl (hb hby d12_51) ?_
          exact kt
        -- returns (.int (0 : Int32)), wanted (.int (own_same xp xl))
        obtain ⟨fs, hr, hrun, hended, hW, hsame⟩ := X24.leave (v := some (.int (0 : Int32))) (fun h => by rw [Bd.returns] at h; cases h)
        refine ⟨_, _, pre33 _ (retN X24 hx (t := .boolean) Bd.returns (by simp) (hb hby d12_52) hr), hrun, hended, _, _, rfl, ?_, ⟨_, rfl⟩, hW, hsame.mono (by decide) (by decide)⟩
        show Q_same Z xp xl h0 n0 _ T24.heap _
        rw [e24]
        exact ⟨(congrArg (fun z => some (Value.int z)) ((if_neg hc10).trans ((if_neg hc21).trans (if_neg hc26))).symm), N24, rfl⟩
theorem ef_5 (m : MethodId) (x0 : Int32) (x1 : Int32) (x2 : Int32) : entryFrame m #[(.int x0), (.int x1), (.int x2)] 3 = mkF m 0 #[.val (.int x0), .val (.int x1), .val (.int x2)] [] := by first | (simp [entryFrame, mkF, argsToLocals, Value.category]; done) | rfl
theorem d2_0 : decode method_2_code 0 = .ok (.iload_n 2, 1) := by decide +kernel
theorem d2_1 : decode method_2_code 1 = .ok (.ifCond .eq 26, 3) := by decide +kernel
theorem d2_4 : decode method_2_code 4 = .ok (.new 7, 3) := by decide +kernel
theorem d2_7 : decode method_2_code 7 = .ok (.dup, 1) := by decide +kernel
theorem d2_8 : decode method_2_code 8 = .ok (.iconst 2, 1) := by decide +kernel
theorem d2_9 : decode method_2_code 9 = .ok (.newarray .char, 2) := by decide +kernel
theorem d2_11 : decode method_2_code 11 = .ok (.dup, 1) := by decide +kernel
theorem d2_12 : decode method_2_code 12 = .ok (.iconst 0, 1) := by decide +kernel
theorem d2_13 : decode method_2_code 13 = .ok (.iload_n 0, 1) := by decide +kernel
theorem d2_14 : decode method_2_code 14 = .ok (.i2c, 1) := by decide +kernel
theorem d2_15 : decode method_2_code 15 = .ok (.castore, 1) := by decide +kernel
theorem d2_16 : decode method_2_code 16 = .ok (.dup, 1) := by decide +kernel
theorem d2_17 : decode method_2_code 17 = .ok (.iconst 1, 1) := by decide +kernel
theorem d2_18 : decode method_2_code 18 = .ok (.iload_n 1, 1) := by decide +kernel
theorem d2_19 : decode method_2_code 19 = .ok (.i2c, 1) := by decide +kernel
theorem d2_20 : decode method_2_code 20 = .ok (.castore, 1) := by decide +kernel
theorem d2_21 : decode method_2_code 21 = .ok (.invokespecial 9, 3) := by decide +kernel
theorem d3_0 : decode jdk_42_method_3_code 0 = .ok (.aload_n 0, 1) := by decide +kernel
theorem d3_1 : decode jdk_42_method_3_code 1 = .ok (.aload_n 1, 1) := by decide +kernel
theorem d3_2 : decode jdk_42_method_3_code 2 = .ok (.iconst 0, 1) := by decide +kernel
theorem d3_3 : decode jdk_42_method_3_code 3 = .ok (.aload_n 1, 1) := by decide +kernel
theorem d3_4 : decode jdk_42_method_3_code 4 = .ok (.arraylength, 1) := by decide +kernel
theorem d3_5 : decode jdk_42_method_3_code 5 = .ok (.aconst_null, 1) := by decide +kernel
theorem d3_6 : decode jdk_42_method_3_code 6 = .ok (.invokespecial 27, 3) := by decide +kernel
theorem d4_0 : decode jdk_42_method_149_code 0 = .ok (.aload_n 0, 1) := by decide +kernel
theorem d4_1 : decode jdk_42_method_149_code 1 = .ok (.invokespecial 1, 3) := by decide +kernel
theorem d4_4 : decode jdk_42_method_149_code 4 = .ok (.iload_n 3, 1) := by decide +kernel
theorem d4_5 : decode jdk_42_method_149_code 5 = .ok (.ifCond .ne 22, 3) := by decide +kernel
theorem d4_27 : decode jdk_42_method_149_code 27 = .ok (.getstatic 38, 3) := by decide +kernel
theorem d4_30 : decode jdk_42_method_149_code 30 = .ok (.ifCond .eq 28, 3) := by decide +kernel
theorem d4_33 : decode jdk_42_method_149_code 33 = .ok (.aload_n 1, 1) := by decide +kernel
theorem d4_34 : decode jdk_42_method_149_code 34 = .ok (.iload_n 2, 1) := by decide +kernel
theorem d4_35 : decode jdk_42_method_149_code 35 = .ok (.iload_n 3, 1) := by decide +kernel
theorem d4_36 : decode jdk_42_method_149_code 36 = .ok (.invokestatic 177, 3) := by decide +kernel
theorem d6_0 : decode jdk_52_method_16_code 0 = .ok (.iload_n 2, 1) := by decide +kernel
theorem d6_1 : decode jdk_52_method_16_code 1 = .ok (.newarray .byte, 2) := by decide +kernel
theorem d6_3 : decode jdk_52_method_16_code 3 = .ok (.astore_n 3, 1) := by decide +kernel
theorem d6_4 : decode jdk_52_method_16_code 4 = .ok (.aload_n 0, 1) := by decide +kernel
theorem d6_5 : decode jdk_52_method_16_code 5 = .ok (.iload_n 1, 1) := by decide +kernel
theorem d6_6 : decode jdk_52_method_16_code 6 = .ok (.aload_n 3, 1) := by decide +kernel
theorem d6_7 : decode jdk_52_method_16_code 7 = .ok (.iconst 0, 1) := by decide +kernel
theorem d6_8 : decode jdk_52_method_16_code 8 = .ok (.iload_n 2, 1) := by decide +kernel
theorem d6_9 : decode jdk_52_method_16_code 9 = .ok (.invokestatic 115, 3) := by decide +kernel
theorem d7_0 : decode jdk_52_method_21_code 0 = .ok (.iconst 0, 1) := by decide +kernel
theorem d7_1 : decode jdk_52_method_21_code 1 = .ok (.istore 5, 2) := by decide +kernel
theorem d7_3 : decode jdk_52_method_21_code 3 = .ok (.iload 5, 2) := by decide +kernel
theorem d7_5 : decode jdk_52_method_21_code 5 = .ok (.iload 4, 2) := by decide +kernel
theorem d7_7 : decode jdk_52_method_21_code 7 = .ok (.if_icmp .ge 37, 3) := by decide +kernel
theorem d7_10 : decode jdk_52_method_21_code 10 = .ok (.aload_n 0, 1) := by decide +kernel
theorem d7_11 : decode jdk_52_method_21_code 11 = .ok (.iload_n 1, 1) := by decide +kernel
theorem d7_12 : decode jdk_52_method_21_code 12 = .ok (.caload, 1) := by decide +kernel
theorem d7_13 : decode jdk_52_method_21_code 13 = .ok (.istore 6, 2) := by decide +kernel
theorem d7_15 : decode jdk_52_method_21_code 15 = .ok (.iload 6, 2) := by decide +kernel
theorem d7_17 : decode jdk_52_method_21_code 17 = .ok (.sipush 255, 3) := by decide +kernel
theorem d7_20 : decode jdk_52_method_21_code 20 = .ok (.if_icmp .le 6, 3) := by decide +kernel
theorem d7_26 : decode jdk_52_method_21_code 26 = .ok (.aload_n 2, 1) := by decide +kernel
theorem d7_27 : decode jdk_52_method_21_code 27 = .ok (.iload_n 3, 1) := by decide +kernel
theorem d7_28 : decode jdk_52_method_21_code 28 = .ok (.iload 6, 2) := by decide +kernel
theorem d7_30 : decode jdk_52_method_21_code 30 = .ok (.i2b, 1) := by decide +kernel
theorem d7_31 : decode jdk_52_method_21_code 31 = .ok (.bastore, 1) := by decide +kernel
theorem d7_32 : decode jdk_52_method_21_code 32 = .ok (.iinc 1 1, 3) := by decide +kernel
theorem d7_35 : decode jdk_52_method_21_code 35 = .ok (.iinc 3 1, 3) := by decide +kernel
theorem d7_38 : decode jdk_52_method_21_code 38 = .ok (.iinc 5 1, 3) := by decide +kernel
theorem d7_41 : decode jdk_52_method_21_code 41 = .ok (.goto (-38), 3) := by decide +kernel
theorem d7_44 : decode jdk_52_method_21_code 44 = .ok (.iload 4, 2) := by decide +kernel
theorem d7_46 : decode jdk_52_method_21_code 46 = .ok (.ireturn, 1) := by decide +kernel
theorem pn_6 : plainName "java/lang/StringUTF16" = true := by first | (simp [plainName, overriddenIn]; done) | decide +kernel
theorem ef_7 (m : MethodId) (x0 : Addr) (x1 : Int32) (x2 : Addr) (x3 : Int32) (x4 : Int32) : entryFrame m #[(.ref x0), (.int x1), (.ref x2), (.int x3), (.int x4)] 7 = mkF m 0 #[.val (.ref x0), .val (.int x1), .val (.ref x2), .val (.int x3), .val (.int x4), .unset, .unset] [] := by first | (simp [entryFrame, mkF, argsToLocals, Value.category]; done) | rfl
theorem pd_8 : parseMethodDescriptor "([CI[BII)I" = some ⟨[(.array .char), .int, (.array .byte), .int, .int], some .int⟩ := by decide +kernel
theorem d6_12 : decode jdk_52_method_16_code 12 = .ok (.istore 4, 2) := by decide +kernel
theorem d6_14 : decode jdk_52_method_16_code 14 = .ok (.iload 4, 2) := by decide +kernel
theorem d6_16 : decode jdk_52_method_16_code 16 = .ok (.iload_n 2, 1) := by decide +kernel
theorem d6_17 : decode jdk_52_method_16_code 17 = .ok (.if_icmp .eq 40, 3) := by decide +kernel
theorem d6_57 : decode jdk_52_method_16_code 57 = .ok (.aload_n 3, 1) := by decide +kernel
theorem d6_58 : decode jdk_52_method_16_code 58 = .ok (.areturn, 1) := by decide +kernel
def Q_compress7_3 (Z : State) (b41 : Addr) (b331 : Addr) (c0 : Int32) (c1 : Int32) (k41 : ClassId) (k331 : ClassId) (h0 : Heap) (n0 : Nat) (v : Option Value) (h : Heap) (L : List Loc) : Prop := v = some (.int (2 : Int32)) ∧ Fr n0 L ∧ Keep h0 h [b331] ∧ Old Z n0 h ∧ Exa Z h b331 "[B" ∧ Arv Z h b331 k331 .byte (2 : Int32) [(.int (nar .byte ((nar .char (c0.toUInt32.toUInt16.toUInt32.toInt32)).toInt8.toInt32))), (.int (nar .byte ((nar .char (c1.toUInt32.toUInt16.toUInt32.toInt32)).toInt8.toInt32)))] (.int (0 : Int32))
set_option maxRecDepth 65536 in
set_option maxHeartbeats 40000000 in
theorem rm_compress7_3 (l : Launch) (Z : State) (a0 : Array Value) (hw : ∀ d ∈ tables_1, d.before a0 Z = true) (ws : List Jvm.Cond) (b41 : Addr) (b331 : Addr) (c0 : Int32) (c1 : Int32) (k41 : ClassId) (k331 : ClassId) (h0 : Heap) (n0 : Nat) (O0 : Old Z n0 h0) (g_b331 : n0 ≤ b331) (Fi0 : Arv Z h0 b41 k41 .char (2 : Int32) [(.int (nar .char (c0.toUInt32.toUInt16.toUInt32.toInt32))), (.int (nar .char (c1.toUInt32.toUInt16.toUInt32.toInt32)))] (.int (0 : Int32))) (Fi1 : Exa Z h0 b331 "[B") (Fi2 : Arv Z h0 b331 k331 .byte (2 : Int32) [(.int (0 : Int32)), (.int (0 : Int32))] (.int (0 : Int32))) (q0 : own_u8 c0) (q1 : own_u8 c1) (q2 : ¬ (b331 = b41)) :
    MetFree l (⟨"java/lang/StringUTF16", "compress", "([CI[BII)I"⟩ : MethodName) (head1 (Jvm.Cond.code (⟨"java/lang/StringUTF16", "compress", "([CI[BII)I"⟩ : MethodName) jdk_52_method_21_code 7 (some .int) :: ws) ({ frames := 0, cells := 0, slots := 0, locals := 0 } : Room)) (fun a U => a = #[(.ref b41), (.int (0 : Int32)), (.ref b331), (.int (0 : Int32)), (.int (2 : Int32))] ∧ Z.Warmed39 U.vm ∧ U.heap = h0) (fun _ _ _ _ _ => True) (fun _ U o U' => ∃ v L, o = .returned v ∧ Q_compress7_3 Z b41 b331 c0 c1 k41 k331 h0 n0 v U'.heap L ∧ FrameEnd U o U' L ({ frames := 0, cells := 0, slots := 0, locals := 0 } : Room).cells ({ frames := 0, cells := 0, slots := 0, locals := 0 } : Room).slots) := by
  refine MetFree.of_bodySF (plainFor_of_name pn_6) hisR ?_
  intro p e s m args below meth c s₁ Bd hml0 hP hK
  have W := fun {d : Jvm.Cond} (i : Nat) (q : tables_1[i]? = some d) => hw d (List.mem_of_getElem? q)
  obtain ⟨rfl, hZ, hh⟩ := hP
  have hx := Bd.exec
  have hby := Bd.bytes
  have hml : c.maxLocals = 7 := hml0
  have hown : s.vm.findClass "java/lang/StringUTF16" = some m.cls := findClass_of_methodNamed Bd.named
  have hnm := (name_of_methodNamed Bd.named Bd.method).1
  have X0 : Stand p l e ({ frames := 0, cells := 0, slots := 0, locals := 0 } : Room) s m #[(.ref b41), (.int (0 : Int32)), (.ref b331), (.int (0 : Int32)), (.int (2 : Int32))] below meth c s₁ [] 0 0 := Stand.of_body Bd
  have e0 : s₁.heap = h0 := by rw [← hh, Bd.state]; rfl
  have N0 := Fr.nil n0
  have pre0 : ∀ t, Steps p.tables e below (s₁.setTop (mkF m 0 #[rv b41, iv (0 : Int32), rv b331, iv (0 : Int32), iv (2 : Int32), .unset, .unset] [])) t → Steps p.tables e below (s₁.setTop (entryFrame m #[(.ref b41), (.int (0 : Int32)), (.ref b331), (.int (0 : Int32)), (.int (2 : Int32))] 7)) t := fun t k => castTop (ef_7 m b41 (0 : Int32) b331 (0 : Int32) (2 : Int32)) k
  have K0 : Keep h0 h0 [b331] := Keep.refl h0 [b331]
  have pre380 : ∀ t, Steps p.tables e below (s₁.setTop (mkF m 12 #[rv b41, iv (0 : Int32), rv b331, iv (0 : Int32), iv (2 : Int32), iv (0 : Int32), .unset] [(.int (0 : Int32)), (.ref b41)])) t → Steps p.tables e below (s₁.setTop (entryFrame m #[(.ref b41), (.int (0 : Int32)), (.ref b331), (.int (0 : Int32)), (.int (2 : Int32))] 7)) t := fun t kt => by
    refine pre0 _ ?_
    show Steps p.tables e below (s₁.setTop (mkF m 0 #[rv b41, iv (0 : Int32), rv b331, iv (0 : Int32), iv (2 : Int32), .unset, .unset] [])) _
    refine XS.iconst X0.here hx rfl (hb hby d7_0) ?_
    refine XS.istore X0.here hx rfl (hb hby d7_1) rfl (l' := #[rv b41, iv (0 : Int32), rv b331, iv (0 : Int32), iv (2 : Int32), iv (0 : Int32), .unset]) rfl ?_
    refine XS.iload X0.here hx rfl (hb hby d7_3) rfl ?_
    refine XS.iload X0.here hx rfl (hb hby d7_5) rfl ?_
    refine XS.icmpNo X0.here hx rfl (hb hby d7_7) rfl (XT.ii_ge_f (by decide)) ?_
    refine XS.aloadN X0.here hx rfl (hb hby d7_10) rfl rfl ?_
    refine XS.iloadN X0.here hx rfl (hb hby d7_11) rfl ?_
    exact kt
  obtain ⟨c379, Ar379, q379, S379, M379, H379, G379⟩ := id Fi0
  have i379 : ¬ ((0 : Int32) < 0 ∨ c379.slots.size ≤ ((0 : Int32)).toNatClampNeg) := inb_of S379 ⟨by decide, by decide⟩
  have t379 : c379.slots[((0 : Int32)).toNatClampNeg]? = some (.int (nar .char (c0.toUInt32.toUInt16.toUInt32.toInt32))) := Has.at H379 i379 rfl
  have pre381 : ∀ t, Steps p.tables e below (s₁.setTop (mkF m 31 #[rv b41, iv (0 : Int32), rv b331, iv (0 : Int32), iv (2 : Int32), iv (0 : Int32), iv (nar .char (c0.toUInt32.toUInt16.toUInt32.toInt32))] [(.int ((nar .char (c0.toUInt32.toUInt16.toUInt32.toInt32)).toInt8.toInt32)), (.int (0 : Int32)), (.ref b331)])) t → Steps p.tables e below (s₁.setTop (entryFrame m #[(.ref b41), (.int (0 : Int32)), (.ref b331), (.int (0 : Int32)), (.int (2 : Int32))] 7)) t := fun t kt => by
    refine pre380 _ ?_
    show Steps p.tables e below (s₁.setTop (mkF m 12 #[rv b41, iv (0 : Int32), rv b331, iv (0 : Int32), iv (2 : Int32), iv (0 : Int32), .unset] [(.int (0 : Int32)), (.ref b41)])) _
    refine X0.caload hx (j := (0 : Int32)) (v := (.int (nar .char (c0.toUInt32.toUInt16.toUInt32.toInt32)))) (by rw [e0]; exact Ar379.1) (State.isArrayOf_alike hZ.alike Ar379.2.1) Ar379.2.2 i379 t379 (g := (mkF m 12 #[rv b41, iv (0 : Int32), rv b331, iv (0 : Int32), iv (2 : Int32), iv (0 : Int32), .unset] [(.int (0 : Int32)), (.ref b41)])) rfl rfl (hb hby d7_12) _ ?_
    refine XS.istore X0.here hx rfl (hb hby d7_13) rfl (l' := #[rv b41, iv (0 : Int32), rv b331, iv (0 : Int32), iv (2 : Int32), iv (0 : Int32), iv (nar .char (c0.toUInt32.toUInt16.toUInt32.toInt32))]) rfl ?_
    refine XS.iload X0.here hx rfl (hb hby d7_15) rfl ?_
    refine XS.sipush X0.here hx rfl (hb hby d7_17) ?_
    refine XS.icmpYes X0.here hx rfl (pc0 := 20) (pc' := 26) rfl (hb hby d7_20) rfl (XT.ii_le_t (own_ch255 q0)) (by decide) (by decide) ?_
    refine XS.aloadN X0.here hx rfl (hb hby d7_26) rfl rfl ?_
    refine XS.iloadN X0.here hx rfl (hb hby d7_27) rfl ?_
    refine XS.iload X0.here hx rfl (hb hby d7_28) rfl ?_
    show Steps p.tables e below (s₁.setTop (mkF m 30 #[rv b41, iv (0 : Int32), rv b331, iv (0 : Int32), iv (2 : Int32), iv (0 : Int32), iv (nar .char (c0.toUInt32.toUInt16.toUInt32.toInt32))] [(.int (nar .char (c0.toUInt32.toUInt16.toUInt32.toInt32))), (.int (0 : Int32)), (.ref b331)])) _
    refine XS.i2b X0.here hx rfl (hb hby d7_30) rfl ?_
    exact kt
  obtain ⟨c382, Ar382, q382, S382, M382, H382, G382⟩ := id Fi2
  have i382 : ¬ ((0 : Int32) < 0 ∨ c382.slots.size ≤ ((0 : Int32)).toNatClampNeg) := inb_of S382 ⟨by decide, by decide⟩
  obtain ⟨T383, h383, X383, e383, W383, st383⟩ := stB X0 hx hZ e0 Ar382 (j := (0 : Int32)) i382 (g := (mkF m 31 #[rv b41, iv (0 : Int32), rv b331, iv (0 : Int32), iv (2 : Int32), iv (0 : Int32), iv (nar .char (c0.toUInt32.toUInt16.toUInt32.toInt32))] [(.int ((nar .char (c0.toUInt32.toUInt16.toUInt32.toInt32)).toInt8.toInt32)), (.int (0 : Int32)), (.ref b331)])) rfl rfl (hb hby d7_31)
  have pre384 : ∀ t, Steps p.tables e below (T383.setTop (mkF m 32 #[rv b41, iv (0 : Int32), rv b331, iv (0 : Int32), iv (2 : Int32), iv (0 : Int32), iv (nar .char (c0.toUInt32.toUInt16.toUInt32.toInt32))] [])) t → Steps p.tables e below (s₁.setTop (entryFrame m #[(.ref b41), (.int (0 : Int32)), (.ref b331), (.int (0 : Int32)), (.int (2 : Int32))] 7)) t := fun t kt => pre381 _ (st383 _ kt)
  have N383 := Fr.snoc X383 N0 g_b331
  have O383 := O0.wr W383 g_b331
  have K383 : Keep h0 h383 [b331] := K0.wr W383 (Or.inl (List.mem_of_getElem? (i := 0) rfl))
  have F385 := Fi0.other W383 (fun q => q2 q.symm)
  have F386 := Fi1.wr W383
  have F387 : Arv Z h383 b331 k331 .byte (2 : Int32) [(.int (nar .byte ((nar .char (c0.toUInt32.toUInt16.toUInt32.toInt32)).toInt8.toInt32))), (.int (0 : Int32))] (.int (0 : Int32)) := Arv.set Ar382 q382 S382 M382 H382 G382 (fits_nar_byte _) W383 0 rfl (Nat.le_of_ble_eq_true rfl)
  have pre389 : ∀ t, Steps p.tables e below (T383.setTop (mkF m 12 #[rv b41, iv (1 : Int32), rv b331, iv (1 : Int32), iv (2 : Int32), iv (1 : Int32), iv (nar .char (c0.toUInt32.toUInt16.toUInt32.toInt32))] [(.int (1 : Int32)), (.ref b41)])) t → Steps p.tables e below (s₁.setTop (entryFrame m #[(.ref b41), (.int (0 : Int32)), (.ref b331), (.int (0 : Int32)), (.int (2 : Int32))] 7)) t := fun t kt => by
    refine pre384 _ ?_
    show Steps p.tables e below (T383.setTop (mkF m 32 #[rv b41, iv (0 : Int32), rv b331, iv (0 : Int32), iv (2 : Int32), iv (0 : Int32), iv (nar .char (c0.toUInt32.toUInt16.toUInt32.toInt32))] [])) _
    refine XS.iinc X383.here hx rfl (hb hby d7_32) rfl (l' := #[rv b41, iv ((0 : Int32) + (1 : Int32)), rv b331, iv (0 : Int32), iv (2 : Int32), iv (0 : Int32), iv (nar .char (c0.toUInt32.toUInt16.toUInt32.toInt32))]) rfl ?_
    show  Steps p.tables e below (T383.setTop (mkF m 35 #[rv b41, iv ((0 : Int32) + (1 : Int32)), rv b331, iv (0 : Int32), iv (2 : Int32), iv (0 : Int32), iv (nar .char (c0.toUInt32.toUInt16.toUInt32.toInt32))] [])) _
    rw [(by decide : (((0 : Int32) + (1 : Int32)) : Int32) = (1 : Int32))]
    refine XS.iinc X383.here hx rfl (hb hby d7_35) rfl (l' := #[rv b41, iv (1 : Int32), rv b331, iv ((0 : Int32) + (1 : Int32)), iv (2 : Int32), iv (0 : Int32), iv (nar .char (c0.toUInt32.toUInt16.toUInt32.toInt32))]) rfl ?_
    show  Steps p.tables e below (T383.setTop (mkF m 38 #[rv b41, iv (1 : Int32), rv b331, iv ((0 : Int32) + (1 : Int32)), iv (2 : Int32), iv (0 : Int32), iv (nar .char (c0.toUInt32.toUInt16.toUInt32.toInt32))] [])) _
    rw [(by decide : (((0 : Int32) + (1 : Int32)) : Int32) = (1 : Int32))]
    refine XS.iinc X383.here hx rfl (hb hby d7_38) rfl (l' := #[rv b41, iv (1 : Int32), rv b331, iv (1 : Int32), iv (2 : Int32), iv ((0 : Int32) + (1 : Int32)), iv (nar .char (c0.toUInt32.toUInt16.toUInt32.toInt32))]) rfl ?_
    show  Steps p.tables e below (T383.setTop (mkF m 41 #[rv b41, iv (1 : Int32), rv b331, iv (1 : Int32), iv (2 : Int32), iv ((0 : Int32) + (1 : Int32)), iv (nar .char (c0.toUInt32.toUInt16.toUInt32.toInt32))] [])) _
    rw [(by decide : (((0 : Int32) + (1 : Int32)) : Int32) = (1 : Int32))]
    refine XS.goto X383.here hx rfl (pc0 := 41) (pc' := 3) rfl (hb hby d7_41) (by decide) (by decide) ?_
    refine XS.iload X383.here hx rfl (hb hby d7_3) rfl ?_
    refine XS.iload X383.here hx rfl (hb hby d7_5) rfl ?_
    refine XS.icmpNo X383.here hx rfl (hb hby d7_7) rfl (XT.ii_ge_f (by decide)) ?_
    refine XS.aloadN X383.here hx rfl (hb hby d7_10) rfl rfl ?_
    show Steps p.tables e below (T383.setTop (mkF m 11 #[rv b41, iv (1 : Int32), rv b331, iv (1 : Int32), iv (2 : Int32), iv (1 : Int32), iv (nar .char (c0.toUInt32.toUInt16.toUInt32.toInt32))] [(.ref b41)])) _
    refine XS.iloadN X383.here hx rfl (hb hby d7_11) rfl ?_
    exact kt
  obtain ⟨c388, Ar388, q388, S388, M388, H388, G388⟩ := id F385
  have i388 : ¬ ((1 : Int32) < 0 ∨ c388.slots.size ≤ ((1 : Int32)).toNatClampNeg) := inb_of S388 ⟨by decide, by decide⟩
  have t388 : c388.slots[((1 : Int32)).toNatClampNeg]? = some (.int (nar .char (c1.toUInt32.toUInt16.toUInt32.toInt32))) := Has.at H388 i388 rfl
  have pre390 : ∀ t, Steps p.tables e below (T383.setTop (mkF m 31 #[rv b41, iv (1 : Int32), rv b331, iv (1 : Int32), iv (2 : Int32), iv (1 : Int32), iv (nar .char (c1.toUInt32.toUInt16.toUInt32.toInt32))] [(.int ((nar .char (c1.toUInt32.toUInt16.toUInt32.toInt32)).toInt8.toInt32)), (.int (1 : Int32)), (.ref b331)])) t → Steps p.tables e below (s₁.setTop (entryFrame m #[(.ref b41), (.int (0 : Int32)), (.ref b331), (.int (0 : Int32)), (.int (2 : Int32))] 7)) t := fun t kt => by
    refine pre389 _ ?_
    show Steps p.tables e below (T383.setTop (mkF m 12 #[rv b41, iv (1 : Int32), rv b331, iv (1 : Int32), iv (2 : Int32), iv (1 : Int32), iv (nar .char (c0.toUInt32.toUInt16.toUInt32.toInt32))] [(.int (1 : Int32)), (.ref b41)])) _
    refine X383.caload hx (j := (1 : Int32)) (v := (.int (nar .char (c1.toUInt32.toUInt16.toUInt32.toInt32)))) (by rw [e383]; exact Ar388.1) (State.isArrayOf_alike hZ.alike Ar388.2.1) Ar388.2.2 i388 t388 (g := (mkF m 12 #[rv b41, iv (1 : Int32), rv b331, iv (1 : Int32), iv (2 : Int32), iv (1 : Int32), iv (nar .char (c0.toUInt32.toUInt16.toUInt32.toInt32))] [(.int (1 : Int32)), (.ref b41)])) rfl rfl (hb hby d7_12) _ ?_
    refine XS.istore X383.here hx rfl (hb hby d7_13) rfl (l' := #[rv b41, iv (1 : Int32), rv b331, iv (1 : Int32), iv (2 : Int32), iv (1 : Int32), iv (nar .char (c1.toUInt32.toUInt16.toUInt32.toInt32))]) rfl ?_
    refine XS.iload X383.here hx rfl (hb hby d7_15) rfl ?_
    refine XS.sipush X383.here hx rfl (hb hby d7_17) ?_
    refine XS.icmpYes X383.here hx rfl (pc0 := 20) (pc' := 26) rfl (hb hby d7_20) rfl (XT.ii_le_t (own_ch255 q1)) (by decide) (by decide) ?_
    refine XS.aloadN X383.here hx rfl (hb hby d7_26) rfl rfl ?_
    refine XS.iloadN X383.here hx rfl (hb hby d7_27) rfl ?_
    refine XS.iload X383.here hx rfl (hb hby d7_28) rfl ?_
    show Steps p.tables e below (T383.setTop (mkF m 30 #[rv b41, iv (1 : Int32), rv b331, iv (1 : Int32), iv (2 : Int32), iv (1 : Int32), iv (nar .char (c1.toUInt32.toUInt16.toUInt32.toInt32))] [(.int (nar .char (c1.toUInt32.toUInt16.toUInt32.toInt32))), (.int (1 : Int32)), (.ref b331)])) _
    refine XS.i2b X383.here hx rfl (hb hby d7_30) rfl ?_
    exact kt
  obtain ⟨c391, Ar391, q391, S391, M391, H391, G391⟩ := id F387
  have i391 : ¬ ((1 : Int32) < 0 ∨ c391.slots.size ≤ ((1 : Int32)).toNatClampNeg) := inb_of S391 ⟨by decide, by decide⟩
  obtain ⟨T392, h392, X392, e392, W392, st392⟩ := stB X383 hx hZ e383 Ar391 (j := (1 : Int32)) i391 (g := (mkF m 31 #[rv b41, iv (1 : Int32), rv b331, iv (1 : Int32), iv (2 : Int32), iv (1 : Int32), iv (nar .char (c1.toUInt32.toUInt16.toUInt32.toInt32))] [(.int ((nar .char (c1.toUInt32.toUInt16.toUInt32.toInt32)).toInt8.toInt32)), (.int (1 : Int32)), (.ref b331)])) rfl rfl (hb hby d7_31)
  have pre393 : ∀ t, Steps p.tables e below (T392.setTop (mkF m 32 #[rv b41, iv (1 : Int32), rv b331, iv (1 : Int32), iv (2 : Int32), iv (1 : Int32), iv (nar .char (c1.toUInt32.toUInt16.toUInt32.toInt32))] [])) t → Steps p.tables e below (s₁.setTop (entryFrame m #[(.ref b41), (.int (0 : Int32)), (.ref b331), (.int (0 : Int32)), (.int (2 : Int32))] 7)) t := fun t kt => pre390 _ (st392 _ kt)
  have N392 := Fr.snoc X392 N383 g_b331
  have O392 := O383.wr W392 g_b331
  have K392 : Keep h0 h392 [b331] := K383.wr W392 (Or.inl (List.mem_of_getElem? (i := 0) rfl))
  have F394 := F385.other W392 (fun q => q2 q.symm)
  have F395 := F386.wr W392
  have F396 : Arv Z h392 b331 k331 .byte (2 : Int32) [(.int (nar .byte ((nar .char (c0.toUInt32.toUInt16.toUInt32.toInt32)).toInt8.toInt32))), (.int (nar .byte ((nar .char (c1.toUInt32.toUInt16.toUInt32.toInt32)).toInt8.toInt32)))] (.int (0 : Int32)) := Arv.set Ar391 q391 S391 M391 H391 G391 (fits_nar_byte _) W392 1 rfl (Nat.le_of_ble_eq_true rfl)
  have pre397 : ∀ t, Steps p.tables e below (T392.setTop (mkF m 46 #[rv b41, iv (2 : Int32), rv b331, iv (2 : Int32), iv (2 : Int32), iv (2 : Int32), iv (nar .char (c1.toUInt32.toUInt16.toUInt32.toInt32))] [(.int (2 : Int32))])) t → Steps p.tables e below (s₁.setTop (entryFrame m #[(.ref b41), (.int (0 : Int32)), (.ref b331), (.int (0 : Int32)), (.int (2 : Int32))] 7)) t := fun t kt => by
    refine pre393 _ ?_
    show Steps p.tables e below (T392.setTop (mkF m 32 #[rv b41, iv (1 : Int32), rv b331, iv (1 : Int32), iv (2 : Int32), iv (1 : Int32), iv (nar .char (c1.toUInt32.toUInt16.toUInt32.toInt32))] [])) _
    refine XS.iinc X392.here hx rfl (hb hby d7_32) rfl (l' := #[rv b41, iv ((1 : Int32) + (1 : Int32)), rv b331, iv (1 : Int32), iv (2 : Int32), iv (1 : Int32), iv (nar .char (c1.toUInt32.toUInt16.toUInt32.toInt32))]) rfl ?_
    show  Steps p.tables e below (T392.setTop (mkF m 35 #[rv b41, iv ((1 : Int32) + (1 : Int32)), rv b331, iv (1 : Int32), iv (2 : Int32), iv (1 : Int32), iv (nar .char (c1.toUInt32.toUInt16.toUInt32.toInt32))] [])) _
    rw [(by decide : (((1 : Int32) + (1 : Int32)) : Int32) = (2 : Int32))]
    refine XS.iinc X392.here hx rfl (hb hby d7_35) rfl (l' := #[rv b41, iv (2 : Int32), rv b331, iv ((1 : Int32) + (1 : Int32)), iv (2 : Int32), iv (1 : Int32), iv (nar .char (c1.toUInt32.toUInt16.toUInt32.toInt32))]) rfl ?_
    show  Steps p.tables e below (T392.setTop (mkF m 38 #[rv b41, iv (2 : Int32), rv b331, iv ((1 : Int32) + (1 : Int32)), iv (2 : Int32), iv (1 : Int32), iv (nar .char (c1.toUInt32.toUInt16.toUInt32.toInt32))] [])) _
    rw [(by decide : (((1 : Int32) + (1 : Int32)) : Int32) = (2 : Int32))]
    refine XS.iinc X392.here hx rfl (hb hby d7_38) rfl (l' := #[rv b41, iv (2 : Int32), rv b331, iv (2 : Int32), iv (2 : Int32), iv ((1 : Int32) + (1 : Int32)), iv (nar .char (c1.toUInt32.toUInt16.toUInt32.toInt32))]) rfl ?_
    show  Steps p.tables e below (T392.setTop (mkF m 41 #[rv b41, iv (2 : Int32), rv b331, iv (2 : Int32), iv (2 : Int32), iv ((1 : Int32) + (1 : Int32)), iv (nar .char (c1.toUInt32.toUInt16.toUInt32.toInt32))] [])) _
    rw [(by decide : (((1 : Int32) + (1 : Int32)) : Int32) = (2 : Int32))]
    refine XS.goto X392.here hx rfl (pc0 := 41) (pc' := 3) rfl (hb hby d7_41) (by decide) (by decide) ?_
    refine XS.iload X392.here hx rfl (hb hby d7_3) rfl ?_
    refine XS.iload X392.here hx rfl (hb hby d7_5) rfl ?_
    refine XS.icmpYes X392.here hx rfl (pc0 := 7) (pc' := 44) rfl (hb hby d7_7) rfl (XT.ii_ge_t (by decide)) (by decide) (by decide) ?_
    refine XS.iload X392.here hx rfl (hb hby d7_44) rfl ?_
    exact kt
  obtain ⟨fs, hr, hrun, hended, hW, hsame⟩ := X392.leave (v := some (.int (2 : Int32))) (fun h => by rw [Bd.returns] at h; cases h)
  refine ⟨_, _, pre397 _ (retI X392 hx Bd.returns (hb hby d7_46) hr), hrun, hended, _, _, rfl, ?_, ⟨_, rfl⟩, hW, hsame.mono (by decide) (by decide)⟩
  show Q_compress7_3 Z b41 b331 c0 c1 k41 k331 h0 n0 _ T392.heap _
  rw [e392]
  exact ⟨rfl, N392, K392, O392, F395, F396⟩
theorem ef_9 (m : MethodId) (x0 : Addr) (x1 : Int32) (x2 : Int32) : entryFrame m #[(.ref x0), (.int x1), (.int x2)] 6 = mkF m 0 #[.val (.ref x0), .val (.int x1), .val (.int x2), .unset, .unset, .unset] [] := by first | (simp [entryFrame, mkF, argsToLocals, Value.category]; done) | rfl
def Q_compress6_0 (Z : State) (b41 : Addr) (c0 : Int32) (c1 : Int32) (k41 : ClassId) (h0 : Heap) (n0 : Nat) (v : Option Value) (h : Heap) (L : List Loc) : Prop := ∃ (b331 : Addr) (k331 : ClassId), v = some (.ref b331) ∧ Fr n0 L ∧ Keep h0 h [] ∧ Old Z n0 h ∧ Exa Z h b331 "[B" ∧ Arv Z h b331 k331 .byte (2 : Int32) [(.int (nar .byte ((nar .char (c0.toUInt32.toUInt16.toUInt32.toInt32)).toInt8.toInt32))), (.int (nar .byte ((nar .char (c1.toUInt32.toUInt16.toUInt32.toInt32)).toInt8.toInt32)))] (.int (0 : Int32)) ∧ (h0.size ≤ b331)
set_option maxRecDepth 65536 in
set_option maxHeartbeats 40000000 in
theorem rm_compress6_0 (l : Launch) (Z : State) (a0 : Array Value) (hw : ∀ d ∈ tables_1, d.before a0 Z = true) (ws : List Jvm.Cond) (b41 : Addr) (c0 : Int32) (c1 : Int32) (k41 : ClassId) (h0 : Heap) (n0 : Nat) (O0 : Old Z n0 h0) (Fi0 : Exa Z h0 b41 "[C") (Fi1 : Arv Z h0 b41 k41 .char (2 : Int32) [(.int (nar .char (c0.toUInt32.toUInt16.toUInt32.toInt32))), (.int (nar .char (c1.toUInt32.toUInt16.toUInt32.toInt32)))] (.int (0 : Int32))) (q0 : own_u8 c0) (q1 : own_u8 c1) :
    MetFree l (⟨"java/lang/StringUTF16", "compress", "([CII)[B"⟩ : MethodName) (head1 (Jvm.Cond.code (⟨"java/lang/StringUTF16", "compress", "([CII)[B"⟩ : MethodName) jdk_52_method_16_code 6 (some (.array .byte)) :: ws) ({ frames := 1, cells := 1, slots := 2, locals := 18 } : Room)) (fun a U => a = #[(.ref b41), (.int (0 : Int32)), (.int (2 : Int32))] ∧ Z.Warmed39 U.vm ∧ U.heap = h0) (fun _ _ _ _ _ => True) (fun _ U o U' => ∃ v L, o = .returned v ∧ Q_compress6_0 Z b41 c0 c1 k41 h0 n0 v U'.heap L ∧ FrameEnd U o U' L ({ frames := 1, cells := 1, slots := 2, locals := 18 } : Room).cells ({ frames := 1, cells := 1, slots := 2, locals := 18 } : Room).slots) := by
  refine MetFree.of_bodySF (plainFor_of_name pn_6) hisR ?_
  intro p e s m args below meth c s₁ Bd hml0 hP hK
  have W := fun {d : Jvm.Cond} (i : Nat) (q : tables_1[i]? = some d) => hw d (List.mem_of_getElem? q)
  obtain ⟨rfl, hZ, hh⟩ := hP
  have hx := Bd.exec
  have hby := Bd.bytes
  have hml : c.maxLocals = 6 := hml0
  have hown : s.vm.findClass "java/lang/StringUTF16" = some m.cls := findClass_of_methodNamed Bd.named
  have hnm := (name_of_methodNamed Bd.named Bd.method).1
  have X0 : Stand p l e ({ frames := 1, cells := 1, slots := 2, locals := 18 } : Room) s m #[(.ref b41), (.int (0 : Int32)), (.int (2 : Int32))] below meth c s₁ [] 0 0 := Stand.of_body Bd
  have e0 : s₁.heap = h0 := by rw [← hh, Bd.state]; rfl
  have N0 := Fr.nil n0
  have pre0 : ∀ t, Steps p.tables e below (s₁.setTop (mkF m 0 #[rv b41, iv (0 : Int32), iv (2 : Int32), .unset, .unset, .unset] [])) t → Steps p.tables e below (s₁.setTop (entryFrame m #[(.ref b41), (.int (0 : Int32)), (.int (2 : Int32))] 6)) t := fun t k => castTop (ef_9 m b41 (0 : Int32) (2 : Int32)) k
  have K0 : Keep h0 h0 [] := Keep.refl h0 []
  have pre330 : ∀ t, Steps p.tables e below (s₁.setTop (mkF m 1 #[rv b41, iv (0 : Int32), iv (2 : Int32), .unset, .unset, .unset] [(.int (2 : Int32))])) t → Steps p.tables e below (s₁.setTop (entryFrame m #[(.ref b41), (.int (0 : Int32)), (.int (2 : Int32))] 6)) t := fun t kt => by
    refine pre0 _ ?_
    show Steps p.tables e below (s₁.setTop (mkF m 0 #[rv b41, iv (0 : Int32), iv (2 : Int32), .unset, .unset, .unset] [])) _
    refine XS.iloadN X0.here hx rfl (hb hby d6_0) rfl ?_
    exact kt
  obtain ⟨T331, h331, k331, X331, e331, E331, A331, B331, st331⟩ := newPE X0 hx hZ (W 26 rfl) e0 (g := (mkF m 1 #[rv b41, iv (0 : Int32), iv (2 : Int32), .unset, .unset, .unset] [(.int (2 : Int32))])) rfl (hb hby d6_1) rfl (by decide) (cap := 2) (by decide) (by decide) (by decide) (by decide) (ad := "[B") (by decide)
  obtain ⟨b331, g331⟩ : ∃ z, z = h0.size := ⟨_, rfl⟩
  rw [← g331] at A331 B331 st331
  have pre332 : ∀ t, Steps p.tables e below (T331.setTop (mkF m 3 #[rv b41, iv (0 : Int32), iv (2 : Int32), .unset, .unset, .unset] [(.ref b331)])) t → Steps p.tables e below (s₁.setTop (entryFrame m #[(.ref b41), (.int (0 : Int32)), (.int (2 : Int32))] 6)) t := fun t kt => pre330 _ (st331 _ kt)
  have O331 := O0.ext E331
  have K331 : Keep h0 h331 [] := K0.ext E331
  have F333 := Fi0.ext E331
  have F334 := Fi1.ext E331
  have g_b331 : n0 ≤ b331 := Nat.le_trans (Nat.le_trans (Nat.le_of_eq O0.1.symm) O0.2.1) (Nat.le_of_eq g331.symm)
  have sz_b331 : h0.size ≤ b331 := Nat.le_trans K0.1 (Nat.le_of_eq g331.symm)
  have ne_b41_b331 : b41 ≠ b331 := Nat.ne_of_lt (Nat.lt_of_lt_of_le Fi0.lt (Nat.le_of_eq g331.symm))
  have F335 : Exa Z h331 b331 "[B" := B331
  have F336 : Arv Z h331 b331 k331 .byte (2 : Int32) [(.int (0 : Int32)), (.int (0 : Int32))] (.int (0 : Int32)) := (Arv.new A331 (by decide)).pad (pad_rep [] (.int (0 : Int32)) 2)
  have pre337 : ∀ t, Steps p.tables e below (T331.setTop (mkF m 9 #[rv b41, iv (0 : Int32), iv (2 : Int32), rv b331, .unset, .unset] [(.int (2 : Int32)), (.int (0 : Int32)), (.ref b331), (.int (0 : Int32)), (.ref b41)])) t → Steps p.tables e below (s₁.setTop (entryFrame m #[(.ref b41), (.int (0 : Int32)), (.int (2 : Int32))] 6)) t := fun t kt => by
    refine pre332 _ ?_
    show Steps p.tables e below (T331.setTop (mkF m 3 #[rv b41, iv (0 : Int32), iv (2 : Int32), .unset, .unset, .unset] [(.ref b331)])) _
    refine XS.astoreN X331.here hx rfl (hb hby d6_3) rfl rfl (l' := #[rv b41, iv (0 : Int32), iv (2 : Int32), rv b331, .unset, .unset]) rfl ?_
    refine XS.aloadN X331.here hx rfl (hb hby d6_4) rfl rfl ?_
    refine XS.iloadN X331.here hx rfl (hb hby d6_5) rfl ?_
    refine XS.aloadN X331.here hx rfl (hb hby d6_6) rfl rfl ?_
    refine XS.iconst X331.here hx rfl (hb hby d6_7) ?_
    refine XS.iloadN X331.here hx rfl (hb hby d6_8) rfl ?_
    exact kt
  obtain ⟨_, _, ⟨T338, L338, k338, n338⟩, -, X338, ⟨Lc338, hQ338, l338, y338, z338⟩, st338⟩ := Jvm.LawKit.callS X331 hx (y := (⟨"java/lang/StringUTF16", "compress", "([CI[BII)I"⟩ : MethodName)) hown (mvT hZ (W 27 rfl)) (mvT hZ (W 28 rfl)) (mvT hZ (W 24 rfl)) (mvT hZ (W 29 rfl)) (by decide) (backOf (W := 0) (rm_compress7_3 l Z a0 hw [] b41 b331 c0 c1 k41 k331 h331 n0 O331 g_b331 F334 F335 F336 q0 q1 (fun q => ne_b41_b331 q.symm)) hZ (W 29 rfl) (W 24 rfl) (by decide) (by decide)) (g := (mkF m 9 #[rv b41, iv (0 : Int32), iv (2 : Int32), rv b331, .unset, .unset] [(.int (2 : Int32)), (.int (0 : Int32)), (.ref b331), (.int (0 : Int32)), (.ref b41)])) rfl (by rw [hml]; rfl) (argsL := [(.ref b41), (.int (0 : Int32)), (.ref b331), (.int (0 : Int32)), (.int (2 : Int32))]) (rest := []) (lenOf pd_8 rfl) rfl (by show 2 * 0 + _ ≤ _; exact Nat.le_of_eq rfl) (hb hby d6_9) (fun _ _ => ⟨rfl, e331, (by decide : 1 + 0 ≤ _), (by decide : 2 + 0 ≤ _)⟩)
  dsimp only [Pt.U, Pt.locs, Pt.cells, Pt.slots] at X338 l338 y338 z338 st338 hQ338
  subst l338 y338 z338
  obtain ⟨rfl, M338, Kc338, O338, J338_0, J338_1⟩ := hQ338
  obtain ⟨h338, e338⟩ : ∃ z, T338.heap = z := ⟨_, rfl⟩
  rw [e338] at Kc338 O338 J338_0 J338_1
  have N338 := Fr.app N0 M338
  have K338 : Keep h0 h338 [] := K331.trans Kc338 (own_all1 (Or.inr sz_b331))
  have pre398 : ∀ t, Steps p.tables e below (T338.setTop (mkF m 12 #[rv b41, iv (0 : Int32), iv (2 : Int32), rv b331, .unset, .unset] [(.int (2 : Int32))])) t → Steps p.tables e below (s₁.setTop (entryFrame m #[(.ref b41), (.int (0 : Int32)), (.int (2 : Int32))] 6)) t := fun t kt => pre337 _ (st338 _ kt)
  have F399 := F333.keep Kc338
  have F400 := F334.keep Kc338 (own_nm1 ne_b41_b331)
  have pre401 : ∀ t, Steps p.tables e below (T338.setTop (mkF m 58 #[rv b41, iv (0 : Int32), iv (2 : Int32), rv b331, iv (2 : Int32), .unset] [(.ref b331)])) t → Steps p.tables e below (s₁.setTop (entryFrame m #[(.ref b41), (.int (0 : Int32)), (.int (2 : Int32))] 6)) t := fun t kt => by
    refine pre398 _ ?_
    show Steps p.tables e below (T338.setTop (mkF m 12 #[rv b41, iv (0 : Int32), iv (2 : Int32), rv b331, .unset, .unset] [(.int (2 : Int32))])) _
    refine XS.istore X338.here hx rfl (hb hby d6_12) rfl (l' := #[rv b41, iv (0 : Int32), iv (2 : Int32), rv b331, iv (2 : Int32), .unset]) rfl ?_
    refine XS.iload X338.here hx rfl (hb hby d6_14) rfl ?_
    refine XS.iloadN X338.here hx rfl (hb hby d6_16) rfl ?_
    refine XS.icmpYes X338.here hx rfl (pc0 := 17) (pc' := 57) rfl (hb hby d6_17) rfl (XT.ii_eq_t (by decide)) (by decide) (by decide) ?_
    refine XS.aloadN X338.here hx rfl (hb hby d6_57) rfl rfl ?_
    exact kt
  obtain ⟨fs, hr, hrun, hended, hW, hsame⟩ := X338.leave (v := some (.ref b331)) (fun h => by rw [Bd.returns] at h; cases h)
  refine ⟨_, _, pre401 _ (X338.areturnOut hx rfl Bd.returns rfl (hb hby d6_58) hr), hrun, hended, _, _, rfl, ?_, ⟨_, rfl⟩, hW, hsame.mono (by decide) (by decide)⟩
  show Q_compress6_0 Z b41 c0 c1 k41 h0 n0 _ T338.heap _
  rw [e338]
  exact ⟨b331, k331, rfl, N338, K338, O338, J338_0, J338_1, sz_b331⟩
theorem pd_10 : parseMethodDescriptor "([CII)[B" = some ⟨[(.array .char), .int, .int], some (.array .byte)⟩ := by decide +kernel
theorem d4_39 : decode jdk_42_method_149_code 39 = .ok (.astore 5, 2) := by decide +kernel
theorem d4_41 : decode jdk_42_method_149_code 41 = .ok (.aload_n 0, 1) := by decide +kernel
theorem d4_42 : decode jdk_42_method_149_code 42 = .ok (.aload 5, 2) := by decide +kernel
theorem d4_44 : decode jdk_42_method_149_code 44 = .ok (.iload_n 3, 1) := by decide +kernel
theorem d4_45 : decode jdk_42_method_149_code 45 = .ok (.invokestatic 47, 3) := by decide +kernel
theorem d8_0 : decode jdk_52_method_15_code 0 = .ok (.iload_n 1, 1) := by decide +kernel
theorem d8_1 : decode jdk_52_method_15_code 1 = .ok (.aload_n 0, 1) := by decide +kernel
theorem d8_2 : decode jdk_52_method_15_code 2 = .ok (.arraylength, 1) := by decide +kernel
theorem d8_3 : decode jdk_52_method_15_code 3 = .ok (.isub, 1) := by decide +kernel
theorem d8_4 : decode jdk_52_method_15_code 4 = .ok (.bipush 31, 2) := by decide +kernel
theorem d8_6 : decode jdk_52_method_15_code 6 = .ok (.iushr, 1) := by decide +kernel
theorem d8_7 : decode jdk_52_method_15_code 7 = .ok (.i2b, 1) := by decide +kernel
theorem d8_8 : decode jdk_52_method_15_code 8 = .ok (.ireturn, 1) := by decide +kernel
theorem ef_11 (m : MethodId) (x0 : Addr) (x1 : Int32) : entryFrame m #[(.ref x0), (.int x1)] 2 = mkF m 0 #[.val (.ref x0), .val (.int x1)] [] := by first | (simp [entryFrame, mkF, argsToLocals, Value.category]; done) | rfl
theorem pd_12 : parseMethodDescriptor "([BI)B" = some ⟨[(.array .byte), .int], some .byte⟩ := by decide +kernel
theorem d4_48 : decode jdk_42_method_149_code 48 = .ok (.putfield 15, 3) := by decide +kernel
theorem d4_51 : decode jdk_42_method_149_code 51 = .ok (.aload_n 0, 1) := by decide +kernel
theorem d4_52 : decode jdk_42_method_149_code 52 = .ok (.aload 5, 2) := by decide +kernel
theorem d4_54 : decode jdk_42_method_149_code 54 = .ok (.putfield 9, 3) := by decide +kernel
theorem d4_57 : decode jdk_42_method_149_code 57 = .ok (.return_, 1) := by decide +kernel
def Q_coderFromArrayLen8_2 (Z : State) (b331_491 : Addr) (c0 : Int32) (c1 : Int32) (k331_491 : ClassId) (h0 : Heap) (n0 : Nat) (v : Option Value) (h : Heap) (L : List Loc) : Prop := v = some (.int (0 : Int32)) ∧ Fr n0 L ∧ h = h0
set_option maxRecDepth 65536 in
set_option maxHeartbeats 40000000 in
theorem rm_coderFromArrayLen8_2 (l : Launch) (Z : State) (a0 : Array Value) (hw : ∀ d ∈ tables_1, d.before a0 Z = true) (ws : List Jvm.Cond) (b331_491 : Addr) (c0 : Int32) (c1 : Int32) (k331_491 : ClassId) (h0 : Heap) (n0 : Nat) (O0 : Old Z n0 h0) (Fi0 : Arv Z h0 b331_491 k331_491 .byte (2 : Int32) [(.int (nar .byte ((nar .char (c0.toUInt32.toUInt16.toUInt32.toInt32)).toInt8.toInt32))), (.int (nar .byte ((nar .char (c1.toUInt32.toUInt16.toUInt32.toInt32)).toInt8.toInt32)))] (.int (0 : Int32))) :
    MetFree l (⟨"java/lang/StringUTF16", "coderFromArrayLen", "([BI)B"⟩ : MethodName) (head1 (Jvm.Cond.code (⟨"java/lang/StringUTF16", "coderFromArrayLen", "([BI)B"⟩ : MethodName) jdk_52_method_15_code 2 (some .byte) :: ws) ({ frames := 0, cells := 0, slots := 0, locals := 0 } : Room)) (fun a U => a = #[(.ref b331_491), (.int (2 : Int32))] ∧ Z.Warmed39 U.vm ∧ U.heap = h0) (fun _ _ _ _ _ => True) (fun _ U o U' => ∃ v L, o = .returned v ∧ Q_coderFromArrayLen8_2 Z b331_491 c0 c1 k331_491 h0 n0 v U'.heap L ∧ FrameEnd U o U' L ({ frames := 0, cells := 0, slots := 0, locals := 0 } : Room).cells ({ frames := 0, cells := 0, slots := 0, locals := 0 } : Room).slots) := by
  refine MetFree.of_bodySF (plainFor_of_name pn_6) hisR ?_
  intro p e s m args below meth c s₁ Bd hml0 hP hK
  have W := fun {d : Jvm.Cond} (i : Nat) (q : tables_1[i]? = some d) => hw d (List.mem_of_getElem? q)
  obtain ⟨rfl, hZ, hh⟩ := hP
  have hx := Bd.exec
  have hby := Bd.bytes
  have hml : c.maxLocals = 2 := hml0
  have hown : s.vm.findClass "java/lang/StringUTF16" = some m.cls := findClass_of_methodNamed Bd.named
  have hnm := (name_of_methodNamed Bd.named Bd.method).1
  have X0 : Stand p l e ({ frames := 0, cells := 0, slots := 0, locals := 0 } : Room) s m #[(.ref b331_491), (.int (2 : Int32))] below meth c s₁ [] 0 0 := Stand.of_body Bd
  have e0 : s₁.heap = h0 := by rw [← hh, Bd.state]; rfl
  have N0 := Fr.nil n0
  have pre0 : ∀ t, Steps p.tables e below (s₁.setTop (mkF m 0 #[rv b331_491, iv (2 : Int32)] [])) t → Steps p.tables e below (s₁.setTop (entryFrame m #[(.ref b331_491), (.int (2 : Int32))] 2)) t := fun t k => castTop (ef_11 m b331_491 (2 : Int32)) k
  have K0 : Keep h0 h0 [] := Keep.refl h0 []
  have pre507 : ∀ t, Steps p.tables e below (s₁.setTop (mkF m 2 #[rv b331_491, iv (2 : Int32)] [(.ref b331_491), (.int (2 : Int32))])) t → Steps p.tables e below (s₁.setTop (entryFrame m #[(.ref b331_491), (.int (2 : Int32))] 2)) t := fun t kt => by
    refine pre0 _ ?_
    show Steps p.tables e below (s₁.setTop (mkF m 0 #[rv b331_491, iv (2 : Int32)] [])) _
    refine XS.iloadN X0.here hx rfl (hb hby d8_0) rfl ?_
    refine XS.aloadN X0.here hx rfl (hb hby d8_1) rfl rfl ?_
    exact kt
  obtain ⟨c506, Ar506, -, S506, M506, -, -⟩ := id Fi0
  have pre508 : ∀ t, Steps p.tables e below (s₁.setTop (mkF m 8 #[rv b331_491, iv (2 : Int32)] [(.int (0 : Int32))])) t → Steps p.tables e below (s₁.setTop (entryFrame m #[(.ref b331_491), (.int (2 : Int32))] 2)) t := fun t kt => by
    refine pre507 _ ?_
    show Steps p.tables e below (s₁.setTop (mkF m 2 #[rv b331_491, iv (2 : Int32)] [(.ref b331_491), (.int (2 : Int32))])) _
    refine X0.arraylength hx (by rw [e0]; exact Ar506.1) (State.isArrayOf_alike hZ.alike Ar506.2.1) (g := (mkF m 2 #[rv b331_491, iv (2 : Int32)] [(.ref b331_491), (.int (2 : Int32))])) rfl rfl (hb hby d8_2) _ ?_
    rw [len_of S506 M506]
    refine XS.isub X0.here hx rfl (hb hby d8_3) rfl ?_
    show  Steps p.tables e below (s₁.setTop (mkF m 4 #[rv b331_491, iv (2 : Int32)] [(.int ((2 : Int32) - (2 : Int32)))])) _
    rw [(by decide : (((2 : Int32) - (2 : Int32)) : Int32) = (0 : Int32))]
    refine XS.bipush X0.here hx rfl (hb hby d8_4) ?_
    refine XS.iushr X0.here hx rfl (hb hby d8_6) rfl ?_
    show  Steps p.tables e below (s₁.setTop (mkF m 7 #[rv b331_491, iv (2 : Int32)] [(.int (((0 : Int32).toUInt32 >>> ((31 : Int32) &&& 31).toUInt32).toInt32))])) _
    rw [(by decide : ((((0 : Int32).toUInt32 >>> ((31 : Int32) &&& 31).toUInt32).toInt32) : Int32) = (0 : Int32))]
    refine XS.i2b X0.here hx rfl (hb hby d8_7) rfl ?_
    show  Steps p.tables e below (s₁.setTop (mkF m 8 #[rv b331_491, iv (2 : Int32)] [(.int ((0 : Int32).toInt8.toInt32))])) _
    rw [(by decide : (((0 : Int32).toInt8.toInt32) : Int32) = (0 : Int32))]
    exact kt
  obtain ⟨fs, hr, hrun, hended, hW, hsame⟩ := X0.leave (v := some (.int (0 : Int32))) (fun h => by rw [Bd.returns] at h; cases h)
  refine ⟨_, _, pre508 _ (retN X0 hx (t := .byte) Bd.returns (by simp) (hb hby d8_8) hr), hrun, hended, _, _, rfl, ?_, ⟨_, rfl⟩, hW, hsame.mono (by decide) (by decide)⟩
  show Q_coderFromArrayLen8_2 Z b331_491 c0 c1 k331_491 h0 n0 _ s₁.heap _
  rw [e0]
  exact ⟨rfl, N0, rfl⟩
theorem pn_13 : plainName "java/lang/String" = true := by first | (simp [plainName, overriddenIn]; done) | decide +kernel
theorem ef_14 (m : MethodId) (x0 : Addr) (x1 : Addr) (x2 : Int32) (x3 : Int32) : entryFrame m #[(.ref x0), (.ref x1), (.int x2), (.int x3), .null] 6 = mkF m 0 #[.val (.ref x0), .val (.ref x1), .val (.int x2), .val (.int x3), .val .null, .unset] [] := by first | (simp [entryFrame, mkF, argsToLocals, Value.category]; done) | rfl
def Q_init4_0 (Z : State) (b35 : Addr) (b41 : Addr) (cz : Int32) (c0 : Int32) (c1 : Int32) (k41 : ClassId) (h0 : Heap) (n0 : Nat) (v : Option Value) (h : Heap) (L : List Loc) : Prop := ∃ (b331_491 : Addr) (k331_491 : ClassId), v = none ∧ Fr n0 L ∧ Keep h0 h [b35] ∧ Old Z n0 h ∧ Exa Z h b35 "java/lang/String" ∧ Exa Z h b331_491 "[B" ∧ Arv Z h b331_491 k331_491 .byte (2 : Int32) [(.int (nar .byte ((nar .char (c0.toUInt32.toUInt16.toUInt32.toInt32)).toInt8.toInt32))), (.int (nar .byte ((nar .char (c1.toUInt32.toUInt16.toUInt32.toInt32)).toInt8.toInt32)))] (.int (0 : Int32)) ∧ Fld Z h b35 "java/lang/String" "coder" "B" (.int (0 : Int32)) ∧ Fld Z h b35 "java/lang/String" "value" "[B" (.ref b331_491) ∧ (h0.size ≤ b331_491)
set_option maxRecDepth 65536 in
set_option maxHeartbeats 40000000 in
theorem rm_init4_0 (l : Launch) (Z : State) (a0 : Array Value) (hw : ∀ d ∈ tables_1, d.before a0 Z = true) (ws : List Jvm.Cond) (b35 : Addr) (b41 : Addr) (cz : Int32) (c0 : Int32) (c1 : Int32) (k41 : ClassId) (h0 : Heap) (n0 : Nat) (O0 : Old Z n0 h0) (G0 : Sta Z Z.heap "java/lang/String" "COMPACT_STRINGS" "Z" (.int cz)) (g_b35 : n0 ≤ b35) (Fi0 : Exa Z h0 b35 "java/lang/String") (Fi1 : Fld Z h0 b35 "java/lang/String" "coder" "B" (.int (0 : Int32))) (Fi2 : Fld Z h0 b35 "java/lang/String" "value" "[B" .null) (Fi3 : Exa Z h0 b41 "[C") (Fi4 : Arv Z h0 b41 k41 .char (2 : Int32) [(.int (nar .char (c0.toUInt32.toUInt16.toUInt32.toInt32))), (.int (nar .char (c1.toUInt32.toUInt16.toUInt32.toInt32)))] (.int (0 : Int32))) (q0 : ¬ ((0 : Int32) = cz)) (q1 : own_u8 c0) (q2 : own_u8 c1) (q3 : ¬ (b41 = b35)) :
    MetFree l (⟨"java/lang/String", "<init>", "([CIILjava/lang/Void;)V"⟩ : MethodName) (head1 (Jvm.Cond.code (⟨"java/lang/String", "<init>", "([CIILjava/lang/Void;)V"⟩ : MethodName) jdk_42_method_149_code 6 none :: ws) ({ frames := 2, cells := 1, slots := 2, locals := 35 } : Room)) (fun a U => a = #[(.ref b35), (.ref b41), (.int (0 : Int32)), (.int (2 : Int32)), .null] ∧ Z.Warmed39 U.vm ∧ U.heap = h0) (fun _ _ _ _ _ => True) (fun _ U o U' => ∃ v L, o = .returned v ∧ Q_init4_0 Z b35 b41 cz c0 c1 k41 h0 n0 v U'.heap L ∧ FrameEnd U o U' L ({ frames := 2, cells := 1, slots := 2, locals := 35 } : Room).cells ({ frames := 2, cells := 1, slots := 2, locals := 35 } : Room).slots) := by
  refine MetFree.of_bodySF (plainFor_of_name pn_13) hisR ?_
  intro p e s m args below meth c s₁ Bd hml0 hP hK
  have W := fun {d : Jvm.Cond} (i : Nat) (q : tables_1[i]? = some d) => hw d (List.mem_of_getElem? q)
  obtain ⟨rfl, hZ, hh⟩ := hP
  have hx := Bd.exec
  have hby := Bd.bytes
  have hml : c.maxLocals = 6 := hml0
  have hown : s.vm.findClass "java/lang/String" = some m.cls := findClass_of_methodNamed Bd.named
  have hnm := (name_of_methodNamed Bd.named Bd.method).1
  have X0 : Stand p l e ({ frames := 2, cells := 1, slots := 2, locals := 35 } : Room) s m #[(.ref b35), (.ref b41), (.int (0 : Int32)), (.int (2 : Int32)), .null] below meth c s₁ [] 0 0 := Stand.of_body Bd
  have e0 : s₁.heap = h0 := by rw [← hh, Bd.state]; rfl
  have N0 := Fr.nil n0
  have pre0 : ∀ t, Steps p.tables e below (s₁.setTop (mkF m 0 #[rv b35, rv b41, iv (0 : Int32), iv (2 : Int32), .val .null, .unset] [])) t → Steps p.tables e below (s₁.setTop (entryFrame m #[(.ref b35), (.ref b41), (.int (0 : Int32)), (.int (2 : Int32)), .null] 6)) t := fun t k => castTop (ef_14 m b35 b41 (0 : Int32) (2 : Int32)) k
  have K0 : Keep h0 h0 [b35] := Keep.refl h0 [b35]
  have pre484 : ∀ t, Steps p.tables e below (s₁.setTop (mkF m 1 #[rv b35, rv b41, iv (0 : Int32), iv (2 : Int32), .val .null, .unset] [(.ref b35)])) t → Steps p.tables e below (s₁.setTop (entryFrame m #[(.ref b35), (.ref b41), (.int (0 : Int32)), (.int (2 : Int32)), .null] 6)) t := fun t kt => by
    refine pre0 _ ?_
    show Steps p.tables e below (s₁.setTop (mkF m 0 #[rv b35, rv b41, iv (0 : Int32), iv (2 : Int32), .val .null, .unset] [])) _
    refine XS.aloadN X0.here hx rfl (hb hby d4_0) rfl rfl ?_
    exact kt
  obtain ⟨T485, X485, e485, st485⟩ := initO X0 hx hZ hown (W 18 rfl) (W 19 rfl) (W 20 rfl) e0 (g := (mkF m 1 #[rv b35, rv b41, iv (0 : Int32), iv (2 : Int32), .val .null, .unset] [(.ref b35)])) rfl (by rw [hml]; rfl) rfl (hb hby d4_1) (by decide) (W := 0) (by show 2 * 0 + _ ≤ _; exact Nat.le_of_eq rfl) (by decide)
  have pre486 : ∀ t, Steps p.tables e below (T485.setTop (mkF m 4 #[rv b35, rv b41, iv (0 : Int32), iv (2 : Int32), .val .null, .unset] [])) t → Steps p.tables e below (s₁.setTop (entryFrame m #[(.ref b35), (.ref b41), (.int (0 : Int32)), (.int (2 : Int32)), .null] 6)) t := fun t kt => pre484 _ (st485 _ kt)
  have pre487 : ∀ t, Steps p.tables e below (T485.setTop (mkF m 27 #[rv b35, rv b41, iv (0 : Int32), iv (2 : Int32), .val .null, .unset] [])) t → Steps p.tables e below (s₁.setTop (entryFrame m #[(.ref b35), (.ref b41), (.int (0 : Int32)), (.int (2 : Int32)), .null] 6)) t := fun t kt => by
    refine pre486 _ ?_
    show Steps p.tables e below (T485.setTop (mkF m 4 #[rv b35, rv b41, iv (0 : Int32), iv (2 : Int32), .val .null, .unset] [])) _
    refine XS.iloadN X485.here hx rfl (hb hby d4_4) rfl ?_
    refine XS.ifYes X485.here hx rfl (pc0 := 5) (pc' := 27) rfl (hb hby d4_5) rfl (XT.i0_ne_t (by decide)) (by decide) (by decide) ?_
    exact kt
  obtain ⟨T488, X488, e488, st488⟩ := getS2 X485 hx hZ hown (host := "") (Or.inl (W 21 rfl)) Via.refl e485 (G0.ext O0.2) (g := (mkF m 27 #[rv b35, rv b41, iv (0 : Int32), iv (2 : Int32), .val .null, .unset] [])) rfl (hb hby d4_27)
  have pre489 : ∀ t, Steps p.tables e below (T488.setTop (mkF m 30 #[rv b35, rv b41, iv (0 : Int32), iv (2 : Int32), .val .null, .unset] [(.int cz)])) t → Steps p.tables e below (s₁.setTop (entryFrame m #[(.ref b35), (.ref b41), (.int (0 : Int32)), (.int (2 : Int32)), .null] 6)) t := fun t kt => pre487 _ (st488 _ kt)
  have pre490 : ∀ t, Steps p.tables e below (T488.setTop (mkF m 36 #[rv b35, rv b41, iv (0 : Int32), iv (2 : Int32), .val .null, .unset] [(.int (2 : Int32)), (.int (0 : Int32)), (.ref b41)])) t → Steps p.tables e below (s₁.setTop (entryFrame m #[(.ref b35), (.ref b41), (.int (0 : Int32)), (.int (2 : Int32)), .null] 6)) t := fun t kt => by
    refine pre489 _ ?_
    show Steps p.tables e below (T488.setTop (mkF m 30 #[rv b35, rv b41, iv (0 : Int32), iv (2 : Int32), .val .null, .unset] [(.int cz)])) _
    refine XS.ifNo X488.here hx rfl (hb hby d4_30) rfl (XT.i0_eq_f (fun q => q0 q.symm)) ?_
    refine XS.aloadN X488.here hx rfl (hb hby d4_33) rfl rfl ?_
    refine XS.iloadN X488.here hx rfl (hb hby d4_34) rfl ?_
    refine XS.iloadN X488.here hx rfl (hb hby d4_35) rfl ?_
    exact kt
  obtain ⟨_, _, ⟨T491, L491, k491, n491⟩, -, X491, ⟨Lc491, hQ491, l491, y491, z491⟩, st491⟩ := Jvm.LawKit.callS X488 hx (y := (⟨"java/lang/StringUTF16", "compress", "([CII)[B"⟩ : MethodName)) hown (mvT hZ (W 22 rfl)) (mvT hZ (W 23 rfl)) (mvT hZ (W 24 rfl)) (mvT hZ (W 25 rfl)) (by decide) (backOf (W := 0) (rm_compress6_0 l Z a0 hw [] b41 c0 c1 k41 h0 n0 O0 Fi3 Fi4 q1 q2) hZ (W 25 rfl) (W 24 rfl) (by decide) (by decide)) (g := (mkF m 36 #[rv b35, rv b41, iv (0 : Int32), iv (2 : Int32), .val .null, .unset] [(.int (2 : Int32)), (.int (0 : Int32)), (.ref b41)])) rfl (by rw [hml]; rfl) (argsL := [(.ref b41), (.int (0 : Int32)), (.int (2 : Int32))]) (rest := []) (lenOf pd_10 rfl) rfl (by show 2 * 0 + _ ≤ _; exact Nat.le_of_eq rfl) (hb hby d4_36) (fun _ _ => ⟨rfl, e488, (by decide : 0 + 1 ≤ _), (by decide : 0 + 2 ≤ _)⟩)
  dsimp only [Pt.U, Pt.locs, Pt.cells, Pt.slots] at X491 l491 y491 z491 st491 hQ491
  subst l491 y491 z491
  obtain ⟨b331_491, k331_491, rfl, M491, Kc491, O491, J491_0, J491_1, P491_0⟩ := hQ491
  obtain ⟨h491, e491⟩ : ∃ z, T491.heap = z := ⟨_, rfl⟩
  rw [e491] at Kc491 O491 J491_0 J491_1
  try rw [e491] at P491_0
  have N491 := Fr.app N0 M491
  have K491 : Keep h0 h491 [b35] := K0.trans Kc491 (own_all0 )
  have pre492 : ∀ t, Steps p.tables e below (T491.setTop (mkF m 39 #[rv b35, rv b41, iv (0 : Int32), iv (2 : Int32), .val .null, .unset] [(.ref b331_491)])) t → Steps p.tables e below (s₁.setTop (entryFrame m #[(.ref b35), (.ref b41), (.int (0 : Int32)), (.int (2 : Int32)), .null] 6)) t := fun t kt => pre490 _ (st491 _ kt)
  have F493 := Fi0.keep Kc491
  have F494 := Fi1.keep Kc491 (own_nm0 )
  have F495 := Fi2.keep Kc491 (own_nm0 )
  have F496 := Fi3.keep Kc491
  have F497 := Fi4.keep Kc491 (own_nm0 )
  have sz_b331_491 : h0.size ≤ b331_491 := Nat.le_trans K0.1 P491_0
  have ne_b35_b331_491 : b35 ≠ b331_491 := Nat.ne_of_lt (Nat.lt_of_lt_of_le Fi0.lt P491_0)
  have ne_b41_b331_491 : b41 ≠ b331_491 := Nat.ne_of_lt (Nat.lt_of_lt_of_le Fi3.lt P491_0)
  have g_b331_491 : n0 ≤ b331_491 := Nat.le_trans (Nat.le_trans (Nat.le_of_eq O0.1.symm) O0.2.1) sz_b331_491
  have pre498 : ∀ t, Steps p.tables e below (T491.setTop (mkF m 45 #[rv b35, rv b41, iv (0 : Int32), iv (2 : Int32), .val .null, rv b331_491] [(.int (2 : Int32)), (.ref b331_491), (.ref b35)])) t → Steps p.tables e below (s₁.setTop (entryFrame m #[(.ref b35), (.ref b41), (.int (0 : Int32)), (.int (2 : Int32)), .null] 6)) t := fun t kt => by
    refine pre492 _ ?_
    show Steps p.tables e below (T491.setTop (mkF m 39 #[rv b35, rv b41, iv (0 : Int32), iv (2 : Int32), .val .null, .unset] [(.ref b331_491)])) _
    refine XS.astore X491.here hx rfl (hb hby d4_39) rfl rfl (l' := #[rv b35, rv b41, iv (0 : Int32), iv (2 : Int32), .val .null, rv b331_491]) rfl ?_
    refine XS.aloadN X491.here hx rfl (hb hby d4_41) rfl rfl ?_
    refine XS.aload X491.here hx rfl (hb hby d4_42) rfl rfl ?_
    refine XS.iloadN X491.here hx rfl (hb hby d4_44) rfl ?_
    exact kt
  obtain ⟨_, _, ⟨T499, L499, k499, n499⟩, -, X499, ⟨Lc499, hQ499, l499, y499, z499⟩, st499⟩ := Jvm.LawKit.callS X491 hx (y := (⟨"java/lang/StringUTF16", "coderFromArrayLen", "([BI)B"⟩ : MethodName)) hown (mvT hZ (W 30 rfl)) (mvT hZ (W 31 rfl)) (mvT hZ (W 24 rfl)) (mvT hZ (W 32 rfl)) (by decide) (backOf (W := 1) (rm_coderFromArrayLen8_2 l Z a0 hw [] b331_491 c0 c1 k331_491 h491 n0 O491 J491_1) hZ (W 32 rfl) (W 24 rfl) (by decide) (by decide)) (g := (mkF m 45 #[rv b35, rv b41, iv (0 : Int32), iv (2 : Int32), .val .null, rv b331_491] [(.int (2 : Int32)), (.ref b331_491), (.ref b35)])) rfl (by rw [hml]; rfl) (argsL := [(.ref b331_491), (.int (2 : Int32))]) (rest := [(.ref b35)]) (lenOf pd_12 rfl) rfl (by show 2 * 0 + _ ≤ _; exact Nat.le_of_eq rfl) (hb hby d4_45) (fun _ _ => ⟨rfl, e491, (by decide : 1 + 0 ≤ _), (by decide : 2 + 0 ≤ _)⟩)
  dsimp only [Pt.U, Pt.locs, Pt.cells, Pt.slots] at X499 l499 y499 z499 st499 hQ499
  subst l499 y499 z499
  obtain ⟨rfl, M499, e499⟩ := hQ499
  have N499 := Fr.app N491 M499
  have pre509 : ∀ t, Steps p.tables e below (T499.setTop (mkF m 48 #[rv b35, rv b41, iv (0 : Int32), iv (2 : Int32), .val .null, rv b331_491] [(.int (0 : Int32)), (.ref b35)])) t → Steps p.tables e below (s₁.setTop (entryFrame m #[(.ref b35), (.ref b41), (.int (0 : Int32)), (.int (2 : Int32)), .null] 6)) t := fun t kt => pre498 _ (st499 _ kt)
  obtain ⟨T510, h510, X510, e510, W510, st510⟩ := putFN X499 hx hZ hown (W 33 rfl) Via.refl e499 F494 F493 (Or.inr ⟨(W 34 rfl), rfl, hnm⟩) (W 8 rfl) (ty := .byte) (v' := (.int (0 : Int32))) (by decide) rfl rfl (g := (mkF m 48 #[rv b35, rv b41, iv (0 : Int32), iv (2 : Int32), .val .null, rv b331_491] [(.int (0 : Int32)), (.ref b35)])) rfl rfl (hb hby d4_48)
  have pre511 : ∀ t, Steps p.tables e below (T510.setTop (mkF m 51 #[rv b35, rv b41, iv (0 : Int32), iv (2 : Int32), .val .null, rv b331_491] [])) t → Steps p.tables e below (s₁.setTop (entryFrame m #[(.ref b35), (.ref b41), (.int (0 : Int32)), (.int (2 : Int32)), .null] 6)) t := fun t kt => pre509 _ (st510 _ kt)
  have N510 := Fr.snoc X510 N499 g_b35
  have O510 := O491.wr W510 g_b35
  have K510 : Keep h0 h510 [b35] := K491.wr W510 (Or.inl (List.mem_of_getElem? (i := 0) rfl))
  have F512 := F493.wr W510
  have F513 := F495.other W510 (Or.inr (slot_ne (Or.inr (W 36 rfl)) (Or.inr (W 34 rfl)) (by decide) (t := (.array .byte)) (t' := .byte) (by decide) (by decide)))
  have F514 := F496.wr W510
  have F515 := F497.other W510 q3
  have F516 := J491_0.wr W510
  have F517 := J491_1.other W510 (fun q => ne_b35_b331_491 q.symm)
  have F518 : Fld Z h510 b35 "java/lang/String" "coder" "B" (.int (0 : Int32)) := F494.same W510
  have pre519 : ∀ t, Steps p.tables e below (T510.setTop (mkF m 54 #[rv b35, rv b41, iv (0 : Int32), iv (2 : Int32), .val .null, rv b331_491] [(.ref b331_491), (.ref b35)])) t → Steps p.tables e below (s₁.setTop (entryFrame m #[(.ref b35), (.ref b41), (.int (0 : Int32)), (.int (2 : Int32)), .null] 6)) t := fun t kt => by
    refine pre511 _ ?_
    show Steps p.tables e below (T510.setTop (mkF m 51 #[rv b35, rv b41, iv (0 : Int32), iv (2 : Int32), .val .null, rv b331_491] [])) _
    refine XS.aloadN X510.here hx rfl (hb hby d4_51) rfl rfl ?_
    refine XS.aload X510.here hx rfl (hb hby d4_52) rfl rfl ?_
    exact kt
  obtain ⟨T520, h520, X520, e520, W520, st520⟩ := putF X510 hx hZ hown (host := "") (Or.inl (W 35 rfl)) Via.refl e510 F513 F512 (Or.inr ⟨(W 36 rfl), rfl, hnm⟩) (W 8 rfl) (ty := (.array .byte)) (by decide) rfl rfl (g := (mkF m 54 #[rv b35, rv b41, iv (0 : Int32), iv (2 : Int32), .val .null, rv b331_491] [(.ref b331_491), (.ref b35)])) rfl rfl (hb hby d4_54)
  have pre521 : ∀ t, Steps p.tables e below (T520.setTop (mkF m 57 #[rv b35, rv b41, iv (0 : Int32), iv (2 : Int32), .val .null, rv b331_491] [])) t → Steps p.tables e below (s₁.setTop (entryFrame m #[(.ref b35), (.ref b41), (.int (0 : Int32)), (.int (2 : Int32)), .null] 6)) t := fun t kt => pre519 _ (st520 _ kt)
  have N520 := Fr.snoc X520 N510 g_b35
  have O520 := O510.wr W520 g_b35
  have K520 : Keep h0 h520 [b35] := K510.wr W520 (Or.inl (List.mem_of_getElem? (i := 0) rfl))
  have F522 := F512.wr W520
  have F523 := F514.wr W520
  have F524 := F515.other W520 q3
  have F525 := F516.wr W520
  have F526 := F517.other W520 (fun q => ne_b35_b331_491 q.symm)
  have F527 := F518.other W520 (Or.inr (slot_ne (Or.inr (W 34 rfl)) (Or.inr (W 36 rfl)) (by decide) (t := .byte) (t' := (.array .byte)) (by decide) (by decide)))
  have F528 : Fld Z h520 b35 "java/lang/String" "value" "[B" (.ref b331_491) := F513.same W520
  obtain ⟨fs, hr, hrun, hended, hW, hsame⟩ := X520.leave (v := none) (fun _ => rfl)
  refine ⟨_, _, pre521 _ (X520.returnOut hx Bd.returns (hb hby d4_57) hr), hrun, hended, _, _, rfl, ?_, ⟨_, rfl⟩, hW, hsame.mono (by decide) (by decide)⟩
  show Q_init4_0 Z b35 b41 cz c0 c1 k41 h0 n0 _ T520.heap _
  rw [e520]
  exact ⟨b331_491, k331_491, rfl, N520, K520, O520, F522, F525, F526, F527, F528, sz_b331_491⟩
theorem pd_15 : parseMethodDescriptor "([CIILjava/lang/Void;)V" = some ⟨[(.array .char), .int, .int, (.object "java/lang/Void")], none⟩ := by decide +kernel
theorem d3_9 : decode jdk_42_method_3_code 9 = .ok (.return_, 1) := by decide +kernel
theorem ef_16 (m : MethodId) (x0 : Addr) (x1 : Addr) : entryFrame m #[(.ref x0), (.ref x1)] 2 = mkF m 0 #[.val (.ref x0), .val (.ref x1)] [] := by first | (simp [entryFrame, mkF, argsToLocals, Value.category]; done) | rfl
def Q_init3_0 (Z : State) (b35 : Addr) (b41 : Addr) (cz : Int32) (c0 : Int32) (c1 : Int32) (k41 : ClassId) (h0 : Heap) (n0 : Nat) (v : Option Value) (h : Heap) (L : List Loc) : Prop := ∃ (b331_542 : Addr) (k331_542 : ClassId), v = none ∧ Fr n0 L ∧ Keep h0 h [b35] ∧ Old Z n0 h ∧ Exa Z h b35 "java/lang/String" ∧ Exa Z h b331_542 "[B" ∧ Arv Z h b331_542 k331_542 .byte (2 : Int32) [(.int (nar .byte ((nar .char (c0.toUInt32.toUInt16.toUInt32.toInt32)).toInt8.toInt32))), (.int (nar .byte ((nar .char (c1.toUInt32.toUInt16.toUInt32.toInt32)).toInt8.toInt32)))] (.int (0 : Int32)) ∧ Fld Z h b35 "java/lang/String" "coder" "B" (.int (0 : Int32)) ∧ Fld Z h b35 "java/lang/String" "value" "[B" (.ref b331_542) ∧ (h0.size ≤ b331_542)
set_option maxRecDepth 65536 in
set_option maxHeartbeats 40000000 in
theorem rm_init3_0 (l : Launch) (Z : State) (a0 : Array Value) (hw : ∀ d ∈ tables_1, d.before a0 Z = true) (ws : List Jvm.Cond) (b35 : Addr) (b41 : Addr) (cz : Int32) (c0 : Int32) (c1 : Int32) (k41 : ClassId) (h0 : Heap) (n0 : Nat) (O0 : Old Z n0 h0) (G0 : Sta Z Z.heap "java/lang/String" "COMPACT_STRINGS" "Z" (.int cz)) (g_b35 : n0 ≤ b35) (Fi0 : Exa Z h0 b35 "java/lang/String") (Fi1 : Fld Z h0 b35 "java/lang/String" "coder" "B" (.int (0 : Int32))) (Fi2 : Fld Z h0 b35 "java/lang/String" "value" "[B" .null) (Fi3 : Exa Z h0 b41 "[C") (Fi4 : Arv Z h0 b41 k41 .char (2 : Int32) [(.int (nar .char (c0.toUInt32.toUInt16.toUInt32.toInt32))), (.int (nar .char (c1.toUInt32.toUInt16.toUInt32.toInt32)))] (.int (0 : Int32))) (q0 : ¬ ((0 : Int32) = cz)) (q1 : own_u8 c0) (q2 : own_u8 c1) (q3 : ¬ (b41 = b35)) :
    MetFree l (⟨"java/lang/String", "<init>", "([C)V"⟩ : MethodName) (head1 (Jvm.Cond.code (⟨"java/lang/String", "<init>", "([C)V"⟩ : MethodName) jdk_42_method_3_code 2 none :: ws) ({ frames := 3, cells := 1, slots := 2, locals := 52 } : Room)) (fun a U => a = #[(.ref b35), (.ref b41)] ∧ Z.Warmed39 U.vm ∧ U.heap = h0) (fun _ _ _ _ _ => True) (fun _ U o U' => ∃ v L, o = .returned v ∧ Q_init3_0 Z b35 b41 cz c0 c1 k41 h0 n0 v U'.heap L ∧ FrameEnd U o U' L ({ frames := 3, cells := 1, slots := 2, locals := 52 } : Room).cells ({ frames := 3, cells := 1, slots := 2, locals := 52 } : Room).slots) := by
  refine MetFree.of_bodySF (plainFor_of_name pn_13) hisR ?_
  intro p e s m args below meth c s₁ Bd hml0 hP hK
  have W := fun {d : Jvm.Cond} (i : Nat) (q : tables_1[i]? = some d) => hw d (List.mem_of_getElem? q)
  obtain ⟨rfl, hZ, hh⟩ := hP
  have hx := Bd.exec
  have hby := Bd.bytes
  have hml : c.maxLocals = 2 := hml0
  have hown : s.vm.findClass "java/lang/String" = some m.cls := findClass_of_methodNamed Bd.named
  have hnm := (name_of_methodNamed Bd.named Bd.method).1
  have X0 : Stand p l e ({ frames := 3, cells := 1, slots := 2, locals := 52 } : Room) s m #[(.ref b35), (.ref b41)] below meth c s₁ [] 0 0 := Stand.of_body Bd
  have e0 : s₁.heap = h0 := by rw [← hh, Bd.state]; rfl
  have N0 := Fr.nil n0
  have pre0 : ∀ t, Steps p.tables e below (s₁.setTop (mkF m 0 #[rv b35, rv b41] [])) t → Steps p.tables e below (s₁.setTop (entryFrame m #[(.ref b35), (.ref b41)] 2)) t := fun t k => castTop (ef_16 m b35 b41) k
  have K0 : Keep h0 h0 [b35] := Keep.refl h0 [b35]
  have pre540 : ∀ t, Steps p.tables e below (s₁.setTop (mkF m 4 #[rv b35, rv b41] [(.ref b41), (.int (0 : Int32)), (.ref b41), (.ref b35)])) t → Steps p.tables e below (s₁.setTop (entryFrame m #[(.ref b35), (.ref b41)] 2)) t := fun t kt => by
    refine pre0 _ ?_
    show Steps p.tables e below (s₁.setTop (mkF m 0 #[rv b35, rv b41] [])) _
    refine XS.aloadN X0.here hx rfl (hb hby d3_0) rfl rfl ?_
    refine XS.aloadN X0.here hx rfl (hb hby d3_1) rfl rfl ?_
    refine XS.iconst X0.here hx rfl (hb hby d3_2) ?_
    refine XS.aloadN X0.here hx rfl (hb hby d3_3) rfl rfl ?_
    exact kt
  obtain ⟨c539, Ar539, -, S539, M539, -, -⟩ := id Fi4
  have pre541 : ∀ t, Steps p.tables e below (s₁.setTop (mkF m 6 #[rv b35, rv b41] [.null, (.int (2 : Int32)), (.int (0 : Int32)), (.ref b41), (.ref b35)])) t → Steps p.tables e below (s₁.setTop (entryFrame m #[(.ref b35), (.ref b41)] 2)) t := fun t kt => by
    refine pre540 _ ?_
    show Steps p.tables e below (s₁.setTop (mkF m 4 #[rv b35, rv b41] [(.ref b41), (.int (0 : Int32)), (.ref b41), (.ref b35)])) _
    refine X0.arraylength hx (by rw [e0]; exact Ar539.1) (State.isArrayOf_alike hZ.alike Ar539.2.1) (g := (mkF m 4 #[rv b35, rv b41] [(.ref b41), (.int (0 : Int32)), (.ref b41), (.ref b35)])) rfl rfl (hb hby d3_4) _ ?_
    rw [len_of S539 M539]
    refine XS.aconstNull X0.here hx rfl (hb hby d3_5) ?_
    exact kt
  obtain ⟨_, _, ⟨T542, L542, k542, n542⟩, -, X542, ⟨Lc542, hQ542, l542, y542, z542⟩, st542⟩ := X0.specialBack hx (y := (⟨"java/lang/String", "<init>", "([CIILjava/lang/Void;)V"⟩ : MethodName)) rfl hown (mvT hZ (W 14 rfl)) (mvT hZ (W 15 rfl)) (mvT hZ (W 17 rfl)) (by decide) (backOf (W := 0) (rm_init4_0 l Z a0 hw [] b35 b41 cz c0 c1 k41 h0 n0 O0 G0 g_b35 Fi0 Fi1 Fi2 Fi3 Fi4 q0 q1 q2 q3) hZ (W 17 rfl) (W 9 rfl) (by decide) (by decide)) (g := (mkF m 6 #[rv b35, rv b41] [.null, (.int (2 : Int32)), (.int (0 : Int32)), (.ref b41), (.ref b35)])) rfl (by rw [hml]; rfl) (Steps.refl _) (a := b35) (argsL := [(.ref b41), (.int (0 : Int32)), (.int (2 : Int32)), .null]) (rest := []) (lenOf pd_15 rfl) rfl (by show 2 * 0 + _ ≤ _; exact Nat.le_of_eq rfl) (hb hby d3_6) (fun _ _ => ⟨rfl, e0, (by decide : 0 + 1 ≤ _), (by decide : 0 + 2 ≤ _)⟩)
  dsimp only [Pt.U, Pt.locs, Pt.cells, Pt.slots] at X542 l542 y542 z542 st542 hQ542
  subst l542 y542 z542
  obtain ⟨b331_542, k331_542, rfl, M542, Kc542, O542, J542_0, J542_1, J542_2, J542_3, J542_4, P542_0⟩ := hQ542
  obtain ⟨h542, e542⟩ : ∃ z, T542.heap = z := ⟨_, rfl⟩
  rw [e542] at Kc542 O542 J542_0 J542_1 J542_2 J542_3 J542_4
  try rw [e542] at P542_0
  have N542 := Fr.app N0 M542
  have K542 : Keep h0 h542 [b35] := K0.trans Kc542 (own_all1 (Or.inl (List.mem_of_getElem? (i := 0) rfl)))
  have pre543 : ∀ t, Steps p.tables e below (T542.setTop (mkF m 9 #[rv b35, rv b41] [])) t → Steps p.tables e below (s₁.setTop (entryFrame m #[(.ref b35), (.ref b41)] 2)) t := fun t kt => pre541 _ (st542.trans kt)
  have F544 := Fi3.keep Kc542
  have F545 := Fi4.keep Kc542 (own_nm1 q3)
  have sz_b331_542 : h0.size ≤ b331_542 := Nat.le_trans K0.1 P542_0
  have ne_b35_b331_542 : b35 ≠ b331_542 := Nat.ne_of_lt (Nat.lt_of_lt_of_le Fi0.lt P542_0)
  have ne_b41_b331_542 : b41 ≠ b331_542 := Nat.ne_of_lt (Nat.lt_of_lt_of_le Fi3.lt P542_0)
  have g_b331_542 : n0 ≤ b331_542 := Nat.le_trans (Nat.le_trans (Nat.le_of_eq O0.1.symm) O0.2.1) sz_b331_542
  obtain ⟨fs, hr, hrun, hended, hW, hsame⟩ := X542.leave (v := none) (fun _ => rfl)
  refine ⟨_, _, pre543 _ (X542.returnOut hx Bd.returns (hb hby d3_9) hr), hrun, hended, _, _, rfl, ?_, ⟨_, rfl⟩, hW, hsame.mono (by decide) (by decide)⟩
  show Q_init3_0 Z b35 b41 cz c0 c1 k41 h0 n0 _ T542.heap _
  rw [e542]
  exact ⟨b331_542, k331_542, rfl, N542, K542, O542, J542_0, J542_1, J542_2, J542_3, J542_4, sz_b331_542⟩
theorem pd_17 : parseMethodDescriptor "([C)V" = some ⟨[(.array .char)], none⟩ := by decide +kernel
theorem d2_24 : decode method_2_code 24 = .ok (.goto 18, 3) := by decide +kernel
theorem d2_42 : decode method_2_code 42 = .ok (.areturn, 1) := by decide +kernel
def Q_str2 (Z : State) (c0 : Int32) (c1 : Int32) (cz : Int32) (h0 : Heap) (n0 : Nat) (v : Option Value) (h : Heap) (L : List Loc) : Prop := ∃ (r : Addr), v = some (.ref r) ∧ Fr n0 L ∧ Keep h0 h [] ∧ Old Z n0 h ∧ own_str Z h r (1 : Int32) (own_b c0) (own_b c1) ∧ (h0.size ≤ r)
set_option maxRecDepth 65536 in
set_option maxHeartbeats 40000000 in
theorem rm_str2 (l : Launch) (Z : State) (a0 : Array Value) (hw : ∀ d ∈ tables_1, d.before a0 Z = true) (ws : List Jvm.Cond) (c0 : Int32) (c1 : Int32) (cz : Int32) (h0 : Heap) (n0 : Nat) (O0 : Old Z n0 h0) (G0 : Sta Z Z.heap "java/lang/String" "COMPACT_STRINGS" "Z" (.int cz)) (qz : ¬ (cz = (0 : Int32))) (u0 : own_u8 c0) (u1 : own_u8 c1) :
    MetFree l (⟨"com/example/homethread/homethread/cli/ScenarioReportExitStatusPinLaw", "str", "(IIZ)Ljava/lang/String;"⟩ : MethodName) (head1 (Jvm.Cond.code (⟨"com/example/homethread/homethread/cli/ScenarioReportExitStatusPinLaw", "str", "(IIZ)Ljava/lang/String;"⟩ : MethodName) method_2_code 3 (some (.object "java/lang/String")) :: ws) ({ frames := 4, cells := 3, slots := 8, locals := 66 } : Room)) (fun a U => a = #[(.int c0), (.int c1), (.int (1 : Int32))] ∧ Z.Warmed39 U.vm ∧ U.heap = h0) (fun _ _ _ _ _ => True) (fun _ U o U' => ∃ v L, o = .returned v ∧ Q_str2 Z c0 c1 cz h0 n0 v U'.heap L ∧ FrameEnd U o U' L ({ frames := 4, cells := 3, slots := 8, locals := 66 } : Room).cells ({ frames := 4, cells := 3, slots := 8, locals := 66 } : Room).slots) := by
  refine MetFree.of_bodySF (plainFor_of_name pn_0) hisR ?_
  intro p e s m args below meth c s₁ Bd hml0 hP hK
  have W := fun {d : Jvm.Cond} (i : Nat) (q : tables_1[i]? = some d) => hw d (List.mem_of_getElem? q)
  obtain ⟨rfl, hZ, hh⟩ := hP
  have hx := Bd.exec
  have hby := Bd.bytes
  have hml : c.maxLocals = 3 := hml0
  have hown : s.vm.findClass "com/example/homethread/homethread/cli/ScenarioReportExitStatusPinLaw" = some m.cls := findClass_of_methodNamed Bd.named
  have hnm := (name_of_methodNamed Bd.named Bd.method).1
  have X0 : Stand p l e ({ frames := 4, cells := 3, slots := 8, locals := 66 } : Room) s m #[(.int c0), (.int c1), (.int (1 : Int32))] below meth c s₁ [] 0 0 := Stand.of_body Bd
  have e0 : s₁.heap = h0 := by rw [← hh, Bd.state]; rfl
  have N0 := Fr.nil n0
  have pre0 : ∀ t, Steps p.tables e below (s₁.setTop (mkF m 0 #[iv c0, iv c1, iv (1 : Int32)] [])) t → Steps p.tables e below (s₁.setTop (entryFrame m #[(.int c0), (.int c1), (.int (1 : Int32))] 3)) t := fun t k => castTop (ef_5 m c0 c1 (1 : Int32)) k
  have K0 : Keep h0 h0 [] := Keep.refl h0 []
  have pre34 : ∀ t, Steps p.tables e below (s₁.setTop (mkF m 4 #[iv c0, iv c1, iv (1 : Int32)] [])) t → Steps p.tables e below (s₁.setTop (entryFrame m #[(.int c0), (.int c1), (.int (1 : Int32))] 3)) t := fun t kt => by
    refine pre0 _ ?_
    show Steps p.tables e below (s₁.setTop (mkF m 0 #[iv c0, iv c1, iv (1 : Int32)] [])) _
    refine XS.iloadN X0.here hx rfl (hb hby d2_0) rfl ?_
    refine XS.ifNo X0.here hx rfl (hb hby d2_1) rfl (XT.i0_eq_f (by decide)) ?_
    exact kt
  obtain ⟨T35, h35, X35, e35, E35, A35, D35, -, st35⟩ := newO X0 hx hZ hown (W 7 rfl) (W 8 rfl) (W 9 rfl) e0 (g := (mkF m 4 #[iv c0, iv c1, iv (1 : Int32)] [])) rfl (hb hby d2_4) (by decide) (by decide)
  obtain ⟨b35, g35⟩ : ∃ z, z = h0.size := ⟨_, rfl⟩
  rw [← g35] at A35 D35 st35
  have pre36 : ∀ t, Steps p.tables e below (T35.setTop (mkF m 7 #[iv c0, iv c1, iv (1 : Int32)] [(.ref b35)])) t → Steps p.tables e below (s₁.setTop (entryFrame m #[(.int c0), (.int c1), (.int (1 : Int32))] 3)) t := fun t kt => pre34 _ (st35 _ kt)
  have O35 := O0.ext E35
  have K35 : Keep h0 h35 [] := K0.ext E35
  have g_b35 : n0 ≤ b35 := Nat.le_trans (Nat.le_trans (Nat.le_of_eq O0.1.symm) O0.2.1) (Nat.le_of_eq g35.symm)
  have sz_b35 : h0.size ≤ b35 := Nat.le_trans K0.1 (Nat.le_of_eq g35.symm)
  have F37 : Exa Z h35 b35 "java/lang/String" := A35
  have F38 : Fld Z h35 b35 "java/lang/String" "coder" "B" (.int (0 : Int32)) := D35 (Or.inr (W 34 rfl)) (ty := .byte) (by decide)
  have F39 : Fld Z h35 b35 "java/lang/String" "value" "[B" .null := D35 (Or.inr (W 36 rfl)) (ty := (.array .byte)) (by decide)
  have pre40 : ∀ t, Steps p.tables e below (T35.setTop (mkF m 9 #[iv c0, iv c1, iv (1 : Int32)] [(.int (2 : Int32)), (.ref b35), (.ref b35)])) t → Steps p.tables e below (s₁.setTop (entryFrame m #[(.int c0), (.int c1), (.int (1 : Int32))] 3)) t := fun t kt => by
    refine pre36 _ ?_
    show Steps p.tables e below (T35.setTop (mkF m 7 #[iv c0, iv c1, iv (1 : Int32)] [(.ref b35)])) _
    refine XS.dup X35.here hx rfl (hb hby d2_7) rfl rfl ?_
    refine XS.iconst X35.here hx rfl (hb hby d2_8) ?_
    exact kt
  obtain ⟨T41, h41, k41, X41, e41, E41, A41, B41, st41⟩ := newPE X35 hx hZ (W 10 rfl) e35 (g := (mkF m 9 #[iv c0, iv c1, iv (1 : Int32)] [(.int (2 : Int32)), (.ref b35), (.ref b35)])) rfl (hb hby d2_9) rfl (by decide) (cap := 2) (by decide) (by decide) (by decide) (by decide) (ad := "[C") (by decide)
  obtain ⟨b41, g41⟩ : ∃ z, z = h35.size := ⟨_, rfl⟩
  rw [← g41] at A41 B41 st41
  have pre42 : ∀ t, Steps p.tables e below (T41.setTop (mkF m 11 #[iv c0, iv c1, iv (1 : Int32)] [(.ref b41), (.ref b35), (.ref b35)])) t → Steps p.tables e below (s₁.setTop (entryFrame m #[(.int c0), (.int c1), (.int (1 : Int32))] 3)) t := fun t kt => pre40 _ (st41 _ kt)
  have O41 := O35.ext E41
  have K41 : Keep h0 h41 [] := K35.ext E41
  have F43 := F37.ext E41
  have F44 := F38.ext E41
  have F45 := F39.ext E41
  have g_b41 : n0 ≤ b41 := Nat.le_trans (Nat.le_trans (Nat.le_of_eq O35.1.symm) O35.2.1) (Nat.le_of_eq g41.symm)
  have sz_b41 : h0.size ≤ b41 := Nat.le_trans K35.1 (Nat.le_of_eq g41.symm)
  have ne_b35_b41 : b35 ≠ b41 := Nat.ne_of_lt (Nat.lt_of_lt_of_le F37.lt (Nat.le_of_eq g41.symm))
  have F46 : Exa Z h41 b41 "[C" := B41
  have F47 : Arv Z h41 b41 k41 .char (2 : Int32) [(.int (0 : Int32)), (.int (0 : Int32))] (.int (0 : Int32)) := (Arv.new A41 (by decide)).pad (pad_rep [] (.int (0 : Int32)) 2)
  have pre48 : ∀ t, Steps p.tables e below (T41.setTop (mkF m 15 #[iv c0, iv c1, iv (1 : Int32)] [(.int (c0.toUInt32.toUInt16.toUInt32.toInt32)), (.int (0 : Int32)), (.ref b41), (.ref b41), (.ref b35), (.ref b35)])) t → Steps p.tables e below (s₁.setTop (entryFrame m #[(.int c0), (.int c1), (.int (1 : Int32))] 3)) t := fun t kt => by
    refine pre42 _ ?_
    show Steps p.tables e below (T41.setTop (mkF m 11 #[iv c0, iv c1, iv (1 : Int32)] [(.ref b41), (.ref b35), (.ref b35)])) _
    refine XS.dup X41.here hx rfl (hb hby d2_11) rfl rfl ?_
    refine XS.iconst X41.here hx rfl (hb hby d2_12) ?_
    refine XS.iloadN X41.here hx rfl (hb hby d2_13) rfl ?_
    refine XS.i2c X41.here hx rfl (hb hby d2_14) rfl ?_
    exact kt
  obtain ⟨c49, Ar49, q49, S49, M49, H49, G49⟩ := id F47
  have i49 : ¬ ((0 : Int32) < 0 ∨ c49.slots.size ≤ ((0 : Int32)).toNatClampNeg) := inb_of S49 ⟨by decide, by decide⟩
  obtain ⟨T50, h50, X50, e50, W50, st50⟩ := stC X41 hx hZ e41 Ar49 (j := (0 : Int32)) i49 (g := (mkF m 15 #[iv c0, iv c1, iv (1 : Int32)] [(.int (c0.toUInt32.toUInt16.toUInt32.toInt32)), (.int (0 : Int32)), (.ref b41), (.ref b41), (.ref b35), (.ref b35)])) rfl rfl (hb hby d2_15)
  have pre51 : ∀ t, Steps p.tables e below (T50.setTop (mkF m 16 #[iv c0, iv c1, iv (1 : Int32)] [(.ref b41), (.ref b35), (.ref b35)])) t → Steps p.tables e below (s₁.setTop (entryFrame m #[(.int c0), (.int c1), (.int (1 : Int32))] 3)) t := fun t kt => pre48 _ (st50 _ kt)
  have N50 := Fr.snoc X50 N0 g_b41
  have O50 := O41.wr W50 g_b41
  have K50 : Keep h0 h50 [] := K41.wr W50 (Or.inr sz_b41)
  have F52 := F43.wr W50
  have F53 := F44.other W50 (Or.inl ne_b35_b41)
  have F54 := F45.other W50 (Or.inl ne_b35_b41)
  have F55 := F46.wr W50
  have F56 : Arv Z h50 b41 k41 .char (2 : Int32) [(.int (nar .char (c0.toUInt32.toUInt16.toUInt32.toInt32))), (.int (0 : Int32))] (.int (0 : Int32)) := Arv.set Ar49 q49 S49 M49 H49 G49 (fits_nar_char _) W50 0 rfl (Nat.le_of_ble_eq_true rfl)
  have pre57 : ∀ t, Steps p.tables e below (T50.setTop (mkF m 20 #[iv c0, iv c1, iv (1 : Int32)] [(.int (c1.toUInt32.toUInt16.toUInt32.toInt32)), (.int (1 : Int32)), (.ref b41), (.ref b41), (.ref b35), (.ref b35)])) t → Steps p.tables e below (s₁.setTop (entryFrame m #[(.int c0), (.int c1), (.int (1 : Int32))] 3)) t := fun t kt => by
    refine pre51 _ ?_
    show Steps p.tables e below (T50.setTop (mkF m 16 #[iv c0, iv c1, iv (1 : Int32)] [(.ref b41), (.ref b35), (.ref b35)])) _
    refine XS.dup X50.here hx rfl (hb hby d2_16) rfl rfl ?_
    refine XS.iconst X50.here hx rfl (hb hby d2_17) ?_
    refine XS.iloadN X50.here hx rfl (hb hby d2_18) rfl ?_
    refine XS.i2c X50.here hx rfl (hb hby d2_19) rfl ?_
    exact kt
  obtain ⟨c58, Ar58, q58, S58, M58, H58, G58⟩ := id F56
  have i58 : ¬ ((1 : Int32) < 0 ∨ c58.slots.size ≤ ((1 : Int32)).toNatClampNeg) := inb_of S58 ⟨by decide, by decide⟩
  obtain ⟨T59, h59, X59, e59, W59, st59⟩ := stC X50 hx hZ e50 Ar58 (j := (1 : Int32)) i58 (g := (mkF m 20 #[iv c0, iv c1, iv (1 : Int32)] [(.int (c1.toUInt32.toUInt16.toUInt32.toInt32)), (.int (1 : Int32)), (.ref b41), (.ref b41), (.ref b35), (.ref b35)])) rfl rfl (hb hby d2_20)
  have pre60 : ∀ t, Steps p.tables e below (T59.setTop (mkF m 21 #[iv c0, iv c1, iv (1 : Int32)] [(.ref b41), (.ref b35), (.ref b35)])) t → Steps p.tables e below (s₁.setTop (entryFrame m #[(.int c0), (.int c1), (.int (1 : Int32))] 3)) t := fun t kt => pre57 _ (st59 _ kt)
  have N59 := Fr.snoc X59 N50 g_b41
  have O59 := O50.wr W59 g_b41
  have K59 : Keep h0 h59 [] := K50.wr W59 (Or.inr sz_b41)
  have F61 := F52.wr W59
  have F62 := F53.other W59 (Or.inl ne_b35_b41)
  have F63 := F54.other W59 (Or.inl ne_b35_b41)
  have F64 := F55.wr W59
  have F65 : Arv Z h59 b41 k41 .char (2 : Int32) [(.int (nar .char (c0.toUInt32.toUInt16.toUInt32.toInt32))), (.int (nar .char (c1.toUInt32.toUInt16.toUInt32.toInt32)))] (.int (0 : Int32)) := Arv.set Ar58 q58 S58 M58 H58 G58 (fits_nar_char _) W59 1 rfl (Nat.le_of_ble_eq_true rfl)
  obtain ⟨_, _, ⟨T66, L66, k66, n66⟩, -, X66, ⟨Lc66, hQ66, l66, y66, z66⟩, st66⟩ := X59.specialBack hx (y := (⟨"java/lang/String", "<init>", "([C)V"⟩ : MethodName)) rfl hown (mvT hZ (W 11 rfl)) (mvT hZ (W 12 rfl)) (mvT hZ (W 13 rfl)) (by decide) (backOf (W := 1) (rm_init3_0 l Z a0 hw [] b35 b41 cz c0 c1 k41 h59 n0 O59 G0 g_b35 F61 F62 F63 F64 F65 (fun q => qz q.symm) u0 u1 (fun q => ne_b35_b41 q.symm)) hZ (W 13 rfl) (W 9 rfl) (by decide) (by decide)) (g := (mkF m 21 #[iv c0, iv c1, iv (1 : Int32)] [(.ref b41), (.ref b35), (.ref b35)])) rfl (by rw [hml]; rfl) (Steps.refl _) (a := b35) (argsL := [(.ref b41)]) (rest := [(.ref b35)]) (lenOf pd_17 rfl) rfl (by show 2 * 0 + _ ≤ _; exact Nat.le_of_eq rfl) (hb hby d2_21) (fun _ _ => ⟨rfl, e59, (by decide : 2 + 1 ≤ _), (by decide : 6 + 2 ≤ _)⟩)
  dsimp only [Pt.U, Pt.locs, Pt.cells, Pt.slots] at X66 l66 y66 z66 st66 hQ66
  subst l66 y66 z66
  obtain ⟨b331_66, k331_66, rfl, M66, Kc66, O66, J66_0, J66_1, J66_2, J66_3, J66_4, P66_0⟩ := hQ66
  obtain ⟨h66, e66⟩ : ∃ z, T66.heap = z := ⟨_, rfl⟩
  rw [e66] at Kc66 O66 J66_0 J66_1 J66_2 J66_3 J66_4
  try rw [e66] at P66_0
  have N66 := Fr.app N59 M66
  have K66 : Keep h0 h66 [] := K59.trans Kc66 (own_all1 (Or.inr sz_b35))
  have pre546 : ∀ t, Steps p.tables e below (T66.setTop (mkF m 24 #[iv c0, iv c1, iv (1 : Int32)] [(.ref b35)])) t → Steps p.tables e below (s₁.setTop (entryFrame m #[(.int c0), (.int c1), (.int (1 : Int32))] 3)) t := fun t kt => pre60 _ (st66.trans kt)
  have F547 := F64.keep Kc66
  have F548 := F65.keep Kc66 (own_nm1 (fun q => ne_b35_b41 q.symm))
  have sz_b331_66 : h0.size ≤ b331_66 := Nat.le_trans K59.1 P66_0
  have ne_b35_b331_66 : b35 ≠ b331_66 := Nat.ne_of_lt (Nat.lt_of_lt_of_le F61.lt P66_0)
  have ne_b41_b331_66 : b41 ≠ b331_66 := Nat.ne_of_lt (Nat.lt_of_lt_of_le F64.lt P66_0)
  have g_b331_66 : n0 ≤ b331_66 := Nat.le_trans (Nat.le_trans (Nat.le_of_eq O0.1.symm) O0.2.1) sz_b331_66
  have pre549 : ∀ t, Steps p.tables e below (T66.setTop (mkF m 42 #[iv c0, iv c1, iv (1 : Int32)] [(.ref b35)])) t → Steps p.tables e below (s₁.setTop (entryFrame m #[(.int c0), (.int c1), (.int (1 : Int32))] 3)) t := fun t kt => by
    refine pre546 _ ?_
    show Steps p.tables e below (T66.setTop (mkF m 24 #[iv c0, iv c1, iv (1 : Int32)] [(.ref b35)])) _
    refine XS.goto X66.here hx rfl (pc0 := 24) (pc' := 42) rfl (hb hby d2_24) (by decide) (by decide) ?_
    exact kt
  have F550 : own_str Z h66 b35 (1 : Int32) (own_b c0) (own_b c1) := ⟨b331_66, k331_66, _, J66_0, J66_3, J66_4, J66_2, rfl⟩
  obtain ⟨fs, hr, hrun, hended, hW, hsame⟩ := X66.leave (v := some (.ref b35)) (fun h => by rw [Bd.returns] at h; cases h)
  refine ⟨_, _, pre549 _ (X66.areturnOut hx rfl Bd.returns rfl (hb hby d2_42) hr), hrun, hended, _, _, rfl, ?_, ⟨_, rfl⟩, hW, hsame.mono (by decide) (by decide)⟩
  show Q_str2 Z c0 c1 cz h0 n0 _ T66.heap _
  rw [e66]
  exact ⟨b35, rfl, N66, K66, O66, F550, sz_b35⟩
theorem d2_27 : decode method_2_code 27 = .ok (.new 7, 3) := by decide +kernel
theorem d2_30 : decode method_2_code 30 = .ok (.dup, 1) := by decide +kernel
theorem d2_31 : decode method_2_code 31 = .ok (.iconst 1, 1) := by decide +kernel
theorem d2_32 : decode method_2_code 32 = .ok (.newarray .char, 2) := by decide +kernel
theorem d2_34 : decode method_2_code 34 = .ok (.dup, 1) := by decide +kernel
theorem d2_35 : decode method_2_code 35 = .ok (.iconst 0, 1) := by decide +kernel
theorem d2_36 : decode method_2_code 36 = .ok (.iload_n 0, 1) := by decide +kernel
theorem d2_37 : decode method_2_code 37 = .ok (.i2c, 1) := by decide +kernel
theorem d2_38 : decode method_2_code 38 = .ok (.castore, 1) := by decide +kernel
theorem d2_39 : decode method_2_code 39 = .ok (.invokespecial 9, 3) := by decide +kernel
def Q_compress7_7 (Z : State) (b558 : Addr) (b742 : Addr) (c0 : Int32) (k558 : ClassId) (k742 : ClassId) (h0 : Heap) (n0 : Nat) (v : Option Value) (h : Heap) (L : List Loc) : Prop := v = some (.int (1 : Int32)) ∧ Fr n0 L ∧ Keep h0 h [b742] ∧ Old Z n0 h ∧ Exa Z h b742 "[B" ∧ Arv Z h b742 k742 .byte (1 : Int32) [(.int (nar .byte ((nar .char (c0.toUInt32.toUInt16.toUInt32.toInt32)).toInt8.toInt32)))] (.int (0 : Int32))
set_option maxRecDepth 65536 in
set_option maxHeartbeats 40000000 in
theorem rm_compress7_7 (l : Launch) (Z : State) (a0 : Array Value) (hw : ∀ d ∈ tables_1, d.before a0 Z = true) (ws : List Jvm.Cond) (b558 : Addr) (b742 : Addr) (c0 : Int32) (k558 : ClassId) (k742 : ClassId) (h0 : Heap) (n0 : Nat) (O0 : Old Z n0 h0) (g_b742 : n0 ≤ b742) (Fi0 : Arv Z h0 b558 k558 .char (1 : Int32) [(.int (nar .char (c0.toUInt32.toUInt16.toUInt32.toInt32)))] (.int (0 : Int32))) (Fi1 : Exa Z h0 b742 "[B") (Fi2 : Arv Z h0 b742 k742 .byte (1 : Int32) [(.int (0 : Int32))] (.int (0 : Int32))) (q0 : own_u8 c0) (q1 : ¬ (b742 = b558)) :
    MetFree l (⟨"java/lang/StringUTF16", "compress", "([CI[BII)I"⟩ : MethodName) (head1 (Jvm.Cond.code (⟨"java/lang/StringUTF16", "compress", "([CI[BII)I"⟩ : MethodName) jdk_52_method_21_code 7 (some .int) :: ws) ({ frames := 0, cells := 0, slots := 0, locals := 0 } : Room)) (fun a U => a = #[(.ref b558), (.int (0 : Int32)), (.ref b742), (.int (0 : Int32)), (.int (1 : Int32))] ∧ Z.Warmed39 U.vm ∧ U.heap = h0) (fun _ _ _ _ _ => True) (fun _ U o U' => ∃ v L, o = .returned v ∧ Q_compress7_7 Z b558 b742 c0 k558 k742 h0 n0 v U'.heap L ∧ FrameEnd U o U' L ({ frames := 0, cells := 0, slots := 0, locals := 0 } : Room).cells ({ frames := 0, cells := 0, slots := 0, locals := 0 } : Room).slots) := by
  refine MetFree.of_bodySF (plainFor_of_name pn_6) hisR ?_
  intro p e s m args below meth c s₁ Bd hml0 hP hK
  have W := fun {d : Jvm.Cond} (i : Nat) (q : tables_1[i]? = some d) => hw d (List.mem_of_getElem? q)
  obtain ⟨rfl, hZ, hh⟩ := hP
  have hx := Bd.exec
  have hby := Bd.bytes
  have hml : c.maxLocals = 7 := hml0
  have hown : s.vm.findClass "java/lang/StringUTF16" = some m.cls := findClass_of_methodNamed Bd.named
  have hnm := (name_of_methodNamed Bd.named Bd.method).1
  have X0 : Stand p l e ({ frames := 0, cells := 0, slots := 0, locals := 0 } : Room) s m #[(.ref b558), (.int (0 : Int32)), (.ref b742), (.int (0 : Int32)), (.int (1 : Int32))] below meth c s₁ [] 0 0 := Stand.of_body Bd
  have e0 : s₁.heap = h0 := by rw [← hh, Bd.state]; rfl
  have N0 := Fr.nil n0
  have pre0 : ∀ t, Steps p.tables e below (s₁.setTop (mkF m 0 #[rv b558, iv (0 : Int32), rv b742, iv (0 : Int32), iv (1 : Int32), .unset, .unset] [])) t → Steps p.tables e below (s₁.setTop (entryFrame m #[(.ref b558), (.int (0 : Int32)), (.ref b742), (.int (0 : Int32)), (.int (1 : Int32))] 7)) t := fun t k => castTop (ef_7 m b558 (0 : Int32) b742 (0 : Int32) (1 : Int32)) k
  have K0 : Keep h0 h0 [b742] := Keep.refl h0 [b742]
  have pre772 : ∀ t, Steps p.tables e below (s₁.setTop (mkF m 12 #[rv b558, iv (0 : Int32), rv b742, iv (0 : Int32), iv (1 : Int32), iv (0 : Int32), .unset] [(.int (0 : Int32)), (.ref b558)])) t → Steps p.tables e below (s₁.setTop (entryFrame m #[(.ref b558), (.int (0 : Int32)), (.ref b742), (.int (0 : Int32)), (.int (1 : Int32))] 7)) t := fun t kt => by
    refine pre0 _ ?_
    show Steps p.tables e below (s₁.setTop (mkF m 0 #[rv b558, iv (0 : Int32), rv b742, iv (0 : Int32), iv (1 : Int32), .unset, .unset] [])) _
    refine XS.iconst X0.here hx rfl (hb hby d7_0) ?_
    refine XS.istore X0.here hx rfl (hb hby d7_1) rfl (l' := #[rv b558, iv (0 : Int32), rv b742, iv (0 : Int32), iv (1 : Int32), iv (0 : Int32), .unset]) rfl ?_
    refine XS.iload X0.here hx rfl (hb hby d7_3) rfl ?_
    refine XS.iload X0.here hx rfl (hb hby d7_5) rfl ?_
    refine XS.icmpNo X0.here hx rfl (hb hby d7_7) rfl (XT.ii_ge_f (by decide)) ?_
    refine XS.aloadN X0.here hx rfl (hb hby d7_10) rfl rfl ?_
    refine XS.iloadN X0.here hx rfl (hb hby d7_11) rfl ?_
    exact kt
  obtain ⟨c771, Ar771, q771, S771, M771, H771, G771⟩ := id Fi0
  have i771 : ¬ ((0 : Int32) < 0 ∨ c771.slots.size ≤ ((0 : Int32)).toNatClampNeg) := inb_of S771 ⟨by decide, by decide⟩
  have t771 : c771.slots[((0 : Int32)).toNatClampNeg]? = some (.int (nar .char (c0.toUInt32.toUInt16.toUInt32.toInt32))) := Has.at H771 i771 rfl
  have pre773 : ∀ t, Steps p.tables e below (s₁.setTop (mkF m 31 #[rv b558, iv (0 : Int32), rv b742, iv (0 : Int32), iv (1 : Int32), iv (0 : Int32), iv (nar .char (c0.toUInt32.toUInt16.toUInt32.toInt32))] [(.int ((nar .char (c0.toUInt32.toUInt16.toUInt32.toInt32)).toInt8.toInt32)), (.int (0 : Int32)), (.ref b742)])) t → Steps p.tables e below (s₁.setTop (entryFrame m #[(.ref b558), (.int (0 : Int32)), (.ref b742), (.int (0 : Int32)), (.int (1 : Int32))] 7)) t := fun t kt => by
    refine pre772 _ ?_
    show Steps p.tables e below (s₁.setTop (mkF m 12 #[rv b558, iv (0 : Int32), rv b742, iv (0 : Int32), iv (1 : Int32), iv (0 : Int32), .unset] [(.int (0 : Int32)), (.ref b558)])) _
    refine X0.caload hx (j := (0 : Int32)) (v := (.int (nar .char (c0.toUInt32.toUInt16.toUInt32.toInt32)))) (by rw [e0]; exact Ar771.1) (State.isArrayOf_alike hZ.alike Ar771.2.1) Ar771.2.2 i771 t771 (g := (mkF m 12 #[rv b558, iv (0 : Int32), rv b742, iv (0 : Int32), iv (1 : Int32), iv (0 : Int32), .unset] [(.int (0 : Int32)), (.ref b558)])) rfl rfl (hb hby d7_12) _ ?_
    refine XS.istore X0.here hx rfl (hb hby d7_13) rfl (l' := #[rv b558, iv (0 : Int32), rv b742, iv (0 : Int32), iv (1 : Int32), iv (0 : Int32), iv (nar .char (c0.toUInt32.toUInt16.toUInt32.toInt32))]) rfl ?_
    refine XS.iload X0.here hx rfl (hb hby d7_15) rfl ?_
    refine XS.sipush X0.here hx rfl (hb hby d7_17) ?_
    refine XS.icmpYes X0.here hx rfl (pc0 := 20) (pc' := 26) rfl (hb hby d7_20) rfl (XT.ii_le_t (own_ch255 q0)) (by decide) (by decide) ?_
    refine XS.aloadN X0.here hx rfl (hb hby d7_26) rfl rfl ?_
    refine XS.iloadN X0.here hx rfl (hb hby d7_27) rfl ?_
    refine XS.iload X0.here hx rfl (hb hby d7_28) rfl ?_
    show Steps p.tables e below (s₁.setTop (mkF m 30 #[rv b558, iv (0 : Int32), rv b742, iv (0 : Int32), iv (1 : Int32), iv (0 : Int32), iv (nar .char (c0.toUInt32.toUInt16.toUInt32.toInt32))] [(.int (nar .char (c0.toUInt32.toUInt16.toUInt32.toInt32))), (.int (0 : Int32)), (.ref b742)])) _
    refine XS.i2b X0.here hx rfl (hb hby d7_30) rfl ?_
    exact kt
  obtain ⟨c774, Ar774, q774, S774, M774, H774, G774⟩ := id Fi2
  have i774 : ¬ ((0 : Int32) < 0 ∨ c774.slots.size ≤ ((0 : Int32)).toNatClampNeg) := inb_of S774 ⟨by decide, by decide⟩
  obtain ⟨T775, h775, X775, e775, W775, st775⟩ := stB X0 hx hZ e0 Ar774 (j := (0 : Int32)) i774 (g := (mkF m 31 #[rv b558, iv (0 : Int32), rv b742, iv (0 : Int32), iv (1 : Int32), iv (0 : Int32), iv (nar .char (c0.toUInt32.toUInt16.toUInt32.toInt32))] [(.int ((nar .char (c0.toUInt32.toUInt16.toUInt32.toInt32)).toInt8.toInt32)), (.int (0 : Int32)), (.ref b742)])) rfl rfl (hb hby d7_31)
  have pre776 : ∀ t, Steps p.tables e below (T775.setTop (mkF m 32 #[rv b558, iv (0 : Int32), rv b742, iv (0 : Int32), iv (1 : Int32), iv (0 : Int32), iv (nar .char (c0.toUInt32.toUInt16.toUInt32.toInt32))] [])) t → Steps p.tables e below (s₁.setTop (entryFrame m #[(.ref b558), (.int (0 : Int32)), (.ref b742), (.int (0 : Int32)), (.int (1 : Int32))] 7)) t := fun t kt => pre773 _ (st775 _ kt)
  have N775 := Fr.snoc X775 N0 g_b742
  have O775 := O0.wr W775 g_b742
  have K775 : Keep h0 h775 [b742] := K0.wr W775 (Or.inl (List.mem_of_getElem? (i := 0) rfl))
  have F777 := Fi0.other W775 (fun q => q1 q.symm)
  have F778 := Fi1.wr W775
  have F779 : Arv Z h775 b742 k742 .byte (1 : Int32) [(.int (nar .byte ((nar .char (c0.toUInt32.toUInt16.toUInt32.toInt32)).toInt8.toInt32)))] (.int (0 : Int32)) := Arv.set Ar774 q774 S774 M774 H774 G774 (fits_nar_byte _) W775 0 rfl (Nat.le_of_ble_eq_true rfl)
  have pre780 : ∀ t, Steps p.tables e below (T775.setTop (mkF m 46 #[rv b558, iv (1 : Int32), rv b742, iv (1 : Int32), iv (1 : Int32), iv (1 : Int32), iv (nar .char (c0.toUInt32.toUInt16.toUInt32.toInt32))] [(.int (1 : Int32))])) t → Steps p.tables e below (s₁.setTop (entryFrame m #[(.ref b558), (.int (0 : Int32)), (.ref b742), (.int (0 : Int32)), (.int (1 : Int32))] 7)) t := fun t kt => by
    refine pre776 _ ?_
    show Steps p.tables e below (T775.setTop (mkF m 32 #[rv b558, iv (0 : Int32), rv b742, iv (0 : Int32), iv (1 : Int32), iv (0 : Int32), iv (nar .char (c0.toUInt32.toUInt16.toUInt32.toInt32))] [])) _
    refine XS.iinc X775.here hx rfl (hb hby d7_32) rfl (l' := #[rv b558, iv ((0 : Int32) + (1 : Int32)), rv b742, iv (0 : Int32), iv (1 : Int32), iv (0 : Int32), iv (nar .char (c0.toUInt32.toUInt16.toUInt32.toInt32))]) rfl ?_
    show  Steps p.tables e below (T775.setTop (mkF m 35 #[rv b558, iv ((0 : Int32) + (1 : Int32)), rv b742, iv (0 : Int32), iv (1 : Int32), iv (0 : Int32), iv (nar .char (c0.toUInt32.toUInt16.toUInt32.toInt32))] [])) _
    rw [(by decide : (((0 : Int32) + (1 : Int32)) : Int32) = (1 : Int32))]
    refine XS.iinc X775.here hx rfl (hb hby d7_35) rfl (l' := #[rv b558, iv (1 : Int32), rv b742, iv ((0 : Int32) + (1 : Int32)), iv (1 : Int32), iv (0 : Int32), iv (nar .char (c0.toUInt32.toUInt16.toUInt32.toInt32))]) rfl ?_
    show  Steps p.tables e below (T775.setTop (mkF m 38 #[rv b558, iv (1 : Int32), rv b742, iv ((0 : Int32) + (1 : Int32)), iv (1 : Int32), iv (0 : Int32), iv (nar .char (c0.toUInt32.toUInt16.toUInt32.toInt32))] [])) _
    rw [(by decide : (((0 : Int32) + (1 : Int32)) : Int32) = (1 : Int32))]
    refine XS.iinc X775.here hx rfl (hb hby d7_38) rfl (l' := #[rv b558, iv (1 : Int32), rv b742, iv (1 : Int32), iv (1 : Int32), iv ((0 : Int32) + (1 : Int32)), iv (nar .char (c0.toUInt32.toUInt16.toUInt32.toInt32))]) rfl ?_
    show  Steps p.tables e below (T775.setTop (mkF m 41 #[rv b558, iv (1 : Int32), rv b742, iv (1 : Int32), iv (1 : Int32), iv ((0 : Int32) + (1 : Int32)), iv (nar .char (c0.toUInt32.toUInt16.toUInt32.toInt32))] [])) _
    rw [(by decide : (((0 : Int32) + (1 : Int32)) : Int32) = (1 : Int32))]
    refine XS.goto X775.here hx rfl (pc0 := 41) (pc' := 3) rfl (hb hby d7_41) (by decide) (by decide) ?_
    refine XS.iload X775.here hx rfl (hb hby d7_3) rfl ?_
    refine XS.iload X775.here hx rfl (hb hby d7_5) rfl ?_
    refine XS.icmpYes X775.here hx rfl (pc0 := 7) (pc' := 44) rfl (hb hby d7_7) rfl (XT.ii_ge_t (by decide)) (by decide) (by decide) ?_
    refine XS.iload X775.here hx rfl (hb hby d7_44) rfl ?_
    exact kt
  obtain ⟨fs, hr, hrun, hended, hW, hsame⟩ := X775.leave (v := some (.int (1 : Int32))) (fun h => by rw [Bd.returns] at h; cases h)
  refine ⟨_, _, pre780 _ (retI X775 hx Bd.returns (hb hby d7_46) hr), hrun, hended, _, _, rfl, ?_, ⟨_, rfl⟩, hW, hsame.mono (by decide) (by decide)⟩
  show Q_compress7_7 Z b558 b742 c0 k558 k742 h0 n0 _ T775.heap _
  rw [e775]
  exact ⟨rfl, N775, K775, O775, F778, F779⟩
def Q_compress6_1 (Z : State) (b558 : Addr) (c0 : Int32) (k558 : ClassId) (h0 : Heap) (n0 : Nat) (v : Option Value) (h : Heap) (L : List Loc) : Prop := ∃ (b742 : Addr) (k742 : ClassId), v = some (.ref b742) ∧ Fr n0 L ∧ Keep h0 h [] ∧ Old Z n0 h ∧ Exa Z h b742 "[B" ∧ Arv Z h b742 k742 .byte (1 : Int32) [(.int (nar .byte ((nar .char (c0.toUInt32.toUInt16.toUInt32.toInt32)).toInt8.toInt32)))] (.int (0 : Int32)) ∧ (h0.size ≤ b742)
set_option maxRecDepth 65536 in
set_option maxHeartbeats 40000000 in
theorem rm_compress6_1 (l : Launch) (Z : State) (a0 : Array Value) (hw : ∀ d ∈ tables_1, d.before a0 Z = true) (ws : List Jvm.Cond) (b558 : Addr) (c0 : Int32) (k558 : ClassId) (h0 : Heap) (n0 : Nat) (O0 : Old Z n0 h0) (Fi0 : Exa Z h0 b558 "[C") (Fi1 : Arv Z h0 b558 k558 .char (1 : Int32) [(.int (nar .char (c0.toUInt32.toUInt16.toUInt32.toInt32)))] (.int (0 : Int32))) (q0 : own_u8 c0) :
    MetFree l (⟨"java/lang/StringUTF16", "compress", "([CII)[B"⟩ : MethodName) (head1 (Jvm.Cond.code (⟨"java/lang/StringUTF16", "compress", "([CII)[B"⟩ : MethodName) jdk_52_method_16_code 6 (some (.array .byte)) :: ws) ({ frames := 1, cells := 1, slots := 1, locals := 18 } : Room)) (fun a U => a = #[(.ref b558), (.int (0 : Int32)), (.int (1 : Int32))] ∧ Z.Warmed39 U.vm ∧ U.heap = h0) (fun _ _ _ _ _ => True) (fun _ U o U' => ∃ v L, o = .returned v ∧ Q_compress6_1 Z b558 c0 k558 h0 n0 v U'.heap L ∧ FrameEnd U o U' L ({ frames := 1, cells := 1, slots := 1, locals := 18 } : Room).cells ({ frames := 1, cells := 1, slots := 1, locals := 18 } : Room).slots) := by
  refine MetFree.of_bodySF (plainFor_of_name pn_6) hisR ?_
  intro p e s m args below meth c s₁ Bd hml0 hP hK
  have W := fun {d : Jvm.Cond} (i : Nat) (q : tables_1[i]? = some d) => hw d (List.mem_of_getElem? q)
  obtain ⟨rfl, hZ, hh⟩ := hP
  have hx := Bd.exec
  have hby := Bd.bytes
  have hml : c.maxLocals = 6 := hml0
  have hown : s.vm.findClass "java/lang/StringUTF16" = some m.cls := findClass_of_methodNamed Bd.named
  have hnm := (name_of_methodNamed Bd.named Bd.method).1
  have X0 : Stand p l e ({ frames := 1, cells := 1, slots := 1, locals := 18 } : Room) s m #[(.ref b558), (.int (0 : Int32)), (.int (1 : Int32))] below meth c s₁ [] 0 0 := Stand.of_body Bd
  have e0 : s₁.heap = h0 := by rw [← hh, Bd.state]; rfl
  have N0 := Fr.nil n0
  have pre0 : ∀ t, Steps p.tables e below (s₁.setTop (mkF m 0 #[rv b558, iv (0 : Int32), iv (1 : Int32), .unset, .unset, .unset] [])) t → Steps p.tables e below (s₁.setTop (entryFrame m #[(.ref b558), (.int (0 : Int32)), (.int (1 : Int32))] 6)) t := fun t k => castTop (ef_9 m b558 (0 : Int32) (1 : Int32)) k
  have K0 : Keep h0 h0 [] := Keep.refl h0 []
  have pre741 : ∀ t, Steps p.tables e below (s₁.setTop (mkF m 1 #[rv b558, iv (0 : Int32), iv (1 : Int32), .unset, .unset, .unset] [(.int (1 : Int32))])) t → Steps p.tables e below (s₁.setTop (entryFrame m #[(.ref b558), (.int (0 : Int32)), (.int (1 : Int32))] 6)) t := fun t kt => by
    refine pre0 _ ?_
    show Steps p.tables e below (s₁.setTop (mkF m 0 #[rv b558, iv (0 : Int32), iv (1 : Int32), .unset, .unset, .unset] [])) _
    refine XS.iloadN X0.here hx rfl (hb hby d6_0) rfl ?_
    exact kt
  obtain ⟨T742, h742, k742, X742, e742, E742, A742, B742, st742⟩ := newPE X0 hx hZ (W 26 rfl) e0 (g := (mkF m 1 #[rv b558, iv (0 : Int32), iv (1 : Int32), .unset, .unset, .unset] [(.int (1 : Int32))])) rfl (hb hby d6_1) rfl (by decide) (cap := 1) (by decide) (by decide) (by decide) (by decide) (ad := "[B") (by decide)
  obtain ⟨b742, g742⟩ : ∃ z, z = h0.size := ⟨_, rfl⟩
  rw [← g742] at A742 B742 st742
  have pre743 : ∀ t, Steps p.tables e below (T742.setTop (mkF m 3 #[rv b558, iv (0 : Int32), iv (1 : Int32), .unset, .unset, .unset] [(.ref b742)])) t → Steps p.tables e below (s₁.setTop (entryFrame m #[(.ref b558), (.int (0 : Int32)), (.int (1 : Int32))] 6)) t := fun t kt => pre741 _ (st742 _ kt)
  have O742 := O0.ext E742
  have K742 : Keep h0 h742 [] := K0.ext E742
  have F744 := Fi0.ext E742
  have F745 := Fi1.ext E742
  have g_b742 : n0 ≤ b742 := Nat.le_trans (Nat.le_trans (Nat.le_of_eq O0.1.symm) O0.2.1) (Nat.le_of_eq g742.symm)
  have sz_b742 : h0.size ≤ b742 := Nat.le_trans K0.1 (Nat.le_of_eq g742.symm)
  have ne_b558_b742 : b558 ≠ b742 := Nat.ne_of_lt (Nat.lt_of_lt_of_le Fi0.lt (Nat.le_of_eq g742.symm))
  have F746 : Exa Z h742 b742 "[B" := B742
  have F747 : Arv Z h742 b742 k742 .byte (1 : Int32) [(.int (0 : Int32))] (.int (0 : Int32)) := (Arv.new A742 (by decide)).pad (pad_rep [] (.int (0 : Int32)) 1)
  have pre748 : ∀ t, Steps p.tables e below (T742.setTop (mkF m 9 #[rv b558, iv (0 : Int32), iv (1 : Int32), rv b742, .unset, .unset] [(.int (1 : Int32)), (.int (0 : Int32)), (.ref b742), (.int (0 : Int32)), (.ref b558)])) t → Steps p.tables e below (s₁.setTop (entryFrame m #[(.ref b558), (.int (0 : Int32)), (.int (1 : Int32))] 6)) t := fun t kt => by
    refine pre743 _ ?_
    show Steps p.tables e below (T742.setTop (mkF m 3 #[rv b558, iv (0 : Int32), iv (1 : Int32), .unset, .unset, .unset] [(.ref b742)])) _
    refine XS.astoreN X742.here hx rfl (hb hby d6_3) rfl rfl (l' := #[rv b558, iv (0 : Int32), iv (1 : Int32), rv b742, .unset, .unset]) rfl ?_
    refine XS.aloadN X742.here hx rfl (hb hby d6_4) rfl rfl ?_
    refine XS.iloadN X742.here hx rfl (hb hby d6_5) rfl ?_
    refine XS.aloadN X742.here hx rfl (hb hby d6_6) rfl rfl ?_
    refine XS.iconst X742.here hx rfl (hb hby d6_7) ?_
    refine XS.iloadN X742.here hx rfl (hb hby d6_8) rfl ?_
    exact kt
  obtain ⟨_, _, ⟨T749, L749, k749, n749⟩, -, X749, ⟨Lc749, hQ749, l749, y749, z749⟩, st749⟩ := Jvm.LawKit.callS X742 hx (y := (⟨"java/lang/StringUTF16", "compress", "([CI[BII)I"⟩ : MethodName)) hown (mvT hZ (W 27 rfl)) (mvT hZ (W 28 rfl)) (mvT hZ (W 24 rfl)) (mvT hZ (W 29 rfl)) (by decide) (backOf (W := 0) (rm_compress7_7 l Z a0 hw [] b558 b742 c0 k558 k742 h742 n0 O742 g_b742 F745 F746 F747 q0 (fun q => ne_b558_b742 q.symm)) hZ (W 29 rfl) (W 24 rfl) (by decide) (by decide)) (g := (mkF m 9 #[rv b558, iv (0 : Int32), iv (1 : Int32), rv b742, .unset, .unset] [(.int (1 : Int32)), (.int (0 : Int32)), (.ref b742), (.int (0 : Int32)), (.ref b558)])) rfl (by rw [hml]; rfl) (argsL := [(.ref b558), (.int (0 : Int32)), (.ref b742), (.int (0 : Int32)), (.int (1 : Int32))]) (rest := []) (lenOf pd_8 rfl) rfl (by show 2 * 0 + _ ≤ _; exact Nat.le_of_eq rfl) (hb hby d6_9) (fun _ _ => ⟨rfl, e742, (by decide : 1 + 0 ≤ _), (by decide : 1 + 0 ≤ _)⟩)
  dsimp only [Pt.U, Pt.locs, Pt.cells, Pt.slots] at X749 l749 y749 z749 st749 hQ749
  subst l749 y749 z749
  obtain ⟨rfl, M749, Kc749, O749, J749_0, J749_1⟩ := hQ749
  obtain ⟨h749, e749⟩ : ∃ z, T749.heap = z := ⟨_, rfl⟩
  rw [e749] at Kc749 O749 J749_0 J749_1
  have N749 := Fr.app N0 M749
  have K749 : Keep h0 h749 [] := K742.trans Kc749 (own_all1 (Or.inr sz_b742))
  have pre781 : ∀ t, Steps p.tables e below (T749.setTop (mkF m 12 #[rv b558, iv (0 : Int32), iv (1 : Int32), rv b742, .unset, .unset] [(.int (1 : Int32))])) t → Steps p.tables e below (s₁.setTop (entryFrame m #[(.ref b558), (.int (0 : Int32)), (.int (1 : Int32))] 6)) t := fun t kt => pre748 _ (st749 _ kt)
  have F782 := F744.keep Kc749
  have F783 := F745.keep Kc749 (own_nm1 ne_b558_b742)
  have pre784 : ∀ t, Steps p.tables e below (T749.setTop (mkF m 58 #[rv b558, iv (0 : Int32), iv (1 : Int32), rv b742, iv (1 : Int32), .unset] [(.ref b742)])) t → Steps p.tables e below (s₁.setTop (entryFrame m #[(.ref b558), (.int (0 : Int32)), (.int (1 : Int32))] 6)) t := fun t kt => by
    refine pre781 _ ?_
    show Steps p.tables e below (T749.setTop (mkF m 12 #[rv b558, iv (0 : Int32), iv (1 : Int32), rv b742, .unset, .unset] [(.int (1 : Int32))])) _
    refine XS.istore X749.here hx rfl (hb hby d6_12) rfl (l' := #[rv b558, iv (0 : Int32), iv (1 : Int32), rv b742, iv (1 : Int32), .unset]) rfl ?_
    refine XS.iload X749.here hx rfl (hb hby d6_14) rfl ?_
    refine XS.iloadN X749.here hx rfl (hb hby d6_16) rfl ?_
    refine XS.icmpYes X749.here hx rfl (pc0 := 17) (pc' := 57) rfl (hb hby d6_17) rfl (XT.ii_eq_t (by decide)) (by decide) (by decide) ?_
    refine XS.aloadN X749.here hx rfl (hb hby d6_57) rfl rfl ?_
    exact kt
  obtain ⟨fs, hr, hrun, hended, hW, hsame⟩ := X749.leave (v := some (.ref b742)) (fun h => by rw [Bd.returns] at h; cases h)
  refine ⟨_, _, pre784 _ (X749.areturnOut hx rfl Bd.returns rfl (hb hby d6_58) hr), hrun, hended, _, _, rfl, ?_, ⟨_, rfl⟩, hW, hsame.mono (by decide) (by decide)⟩
  show Q_compress6_1 Z b558 c0 k558 h0 n0 _ T749.heap _
  rw [e749]
  exact ⟨b742, k742, rfl, N749, K749, O749, J749_0, J749_1, sz_b742⟩
def Q_coderFromArrayLen8_5 (Z : State) (b742_874 : Addr) (c0 : Int32) (k742_874 : ClassId) (h0 : Heap) (n0 : Nat) (v : Option Value) (h : Heap) (L : List Loc) : Prop := v = some (.int (0 : Int32)) ∧ Fr n0 L ∧ h = h0
set_option maxRecDepth 65536 in
set_option maxHeartbeats 40000000 in
theorem rm_coderFromArrayLen8_5 (l : Launch) (Z : State) (a0 : Array Value) (hw : ∀ d ∈ tables_1, d.before a0 Z = true) (ws : List Jvm.Cond) (b742_874 : Addr) (c0 : Int32) (k742_874 : ClassId) (h0 : Heap) (n0 : Nat) (O0 : Old Z n0 h0) (Fi0 : Arv Z h0 b742_874 k742_874 .byte (1 : Int32) [(.int (nar .byte ((nar .char (c0.toUInt32.toUInt16.toUInt32.toInt32)).toInt8.toInt32)))] (.int (0 : Int32))) :
    MetFree l (⟨"java/lang/StringUTF16", "coderFromArrayLen", "([BI)B"⟩ : MethodName) (head1 (Jvm.Cond.code (⟨"java/lang/StringUTF16", "coderFromArrayLen", "([BI)B"⟩ : MethodName) jdk_52_method_15_code 2 (some .byte) :: ws) ({ frames := 0, cells := 0, slots := 0, locals := 0 } : Room)) (fun a U => a = #[(.ref b742_874), (.int (1 : Int32))] ∧ Z.Warmed39 U.vm ∧ U.heap = h0) (fun _ _ _ _ _ => True) (fun _ U o U' => ∃ v L, o = .returned v ∧ Q_coderFromArrayLen8_5 Z b742_874 c0 k742_874 h0 n0 v U'.heap L ∧ FrameEnd U o U' L ({ frames := 0, cells := 0, slots := 0, locals := 0 } : Room).cells ({ frames := 0, cells := 0, slots := 0, locals := 0 } : Room).slots) := by
  refine MetFree.of_bodySF (plainFor_of_name pn_6) hisR ?_
  intro p e s m args below meth c s₁ Bd hml0 hP hK
  have W := fun {d : Jvm.Cond} (i : Nat) (q : tables_1[i]? = some d) => hw d (List.mem_of_getElem? q)
  obtain ⟨rfl, hZ, hh⟩ := hP
  have hx := Bd.exec
  have hby := Bd.bytes
  have hml : c.maxLocals = 2 := hml0
  have hown : s.vm.findClass "java/lang/StringUTF16" = some m.cls := findClass_of_methodNamed Bd.named
  have hnm := (name_of_methodNamed Bd.named Bd.method).1
  have X0 : Stand p l e ({ frames := 0, cells := 0, slots := 0, locals := 0 } : Room) s m #[(.ref b742_874), (.int (1 : Int32))] below meth c s₁ [] 0 0 := Stand.of_body Bd
  have e0 : s₁.heap = h0 := by rw [← hh, Bd.state]; rfl
  have N0 := Fr.nil n0
  have pre0 : ∀ t, Steps p.tables e below (s₁.setTop (mkF m 0 #[rv b742_874, iv (1 : Int32)] [])) t → Steps p.tables e below (s₁.setTop (entryFrame m #[(.ref b742_874), (.int (1 : Int32))] 2)) t := fun t k => castTop (ef_11 m b742_874 (1 : Int32)) k
  have K0 : Keep h0 h0 [] := Keep.refl h0 []
  have pre890 : ∀ t, Steps p.tables e below (s₁.setTop (mkF m 2 #[rv b742_874, iv (1 : Int32)] [(.ref b742_874), (.int (1 : Int32))])) t → Steps p.tables e below (s₁.setTop (entryFrame m #[(.ref b742_874), (.int (1 : Int32))] 2)) t := fun t kt => by
    refine pre0 _ ?_
    show Steps p.tables e below (s₁.setTop (mkF m 0 #[rv b742_874, iv (1 : Int32)] [])) _
    refine XS.iloadN X0.here hx rfl (hb hby d8_0) rfl ?_
    refine XS.aloadN X0.here hx rfl (hb hby d8_1) rfl rfl ?_
    exact kt
  obtain ⟨c889, Ar889, -, S889, M889, -, -⟩ := id Fi0
  have pre891 : ∀ t, Steps p.tables e below (s₁.setTop (mkF m 8 #[rv b742_874, iv (1 : Int32)] [(.int (0 : Int32))])) t → Steps p.tables e below (s₁.setTop (entryFrame m #[(.ref b742_874), (.int (1 : Int32))] 2)) t := fun t kt => by
    refine pre890 _ ?_
    show Steps p.tables e below (s₁.setTop (mkF m 2 #[rv b742_874, iv (1 : Int32)] [(.ref b742_874), (.int (1 : Int32))])) _
    refine X0.arraylength hx (by rw [e0]; exact Ar889.1) (State.isArrayOf_alike hZ.alike Ar889.2.1) (g := (mkF m 2 #[rv b742_874, iv (1 : Int32)] [(.ref b742_874), (.int (1 : Int32))])) rfl rfl (hb hby d8_2) _ ?_
    rw [len_of S889 M889]
    refine XS.isub X0.here hx rfl (hb hby d8_3) rfl ?_
    show  Steps p.tables e below (s₁.setTop (mkF m 4 #[rv b742_874, iv (1 : Int32)] [(.int ((1 : Int32) - (1 : Int32)))])) _
    rw [(by decide : (((1 : Int32) - (1 : Int32)) : Int32) = (0 : Int32))]
    refine XS.bipush X0.here hx rfl (hb hby d8_4) ?_
    refine XS.iushr X0.here hx rfl (hb hby d8_6) rfl ?_
    show  Steps p.tables e below (s₁.setTop (mkF m 7 #[rv b742_874, iv (1 : Int32)] [(.int (((0 : Int32).toUInt32 >>> ((31 : Int32) &&& 31).toUInt32).toInt32))])) _
    rw [(by decide : ((((0 : Int32).toUInt32 >>> ((31 : Int32) &&& 31).toUInt32).toInt32) : Int32) = (0 : Int32))]
    refine XS.i2b X0.here hx rfl (hb hby d8_7) rfl ?_
    show  Steps p.tables e below (s₁.setTop (mkF m 8 #[rv b742_874, iv (1 : Int32)] [(.int ((0 : Int32).toInt8.toInt32))])) _
    rw [(by decide : (((0 : Int32).toInt8.toInt32) : Int32) = (0 : Int32))]
    exact kt
  obtain ⟨fs, hr, hrun, hended, hW, hsame⟩ := X0.leave (v := some (.int (0 : Int32))) (fun h => by rw [Bd.returns] at h; cases h)
  refine ⟨_, _, pre891 _ (retN X0 hx (t := .byte) Bd.returns (by simp) (hb hby d8_8) hr), hrun, hended, _, _, rfl, ?_, ⟨_, rfl⟩, hW, hsame.mono (by decide) (by decide)⟩
  show Q_coderFromArrayLen8_5 Z b742_874 c0 k742_874 h0 n0 _ s₁.heap _
  rw [e0]
  exact ⟨rfl, N0, rfl⟩
def Q_init4_1 (Z : State) (b552 : Addr) (b558 : Addr) (cz : Int32) (c0 : Int32) (k558 : ClassId) (h0 : Heap) (n0 : Nat) (v : Option Value) (h : Heap) (L : List Loc) : Prop := ∃ (b742_874 : Addr) (k742_874 : ClassId), v = none ∧ Fr n0 L ∧ Keep h0 h [b552] ∧ Old Z n0 h ∧ Exa Z h b552 "java/lang/String" ∧ Exa Z h b742_874 "[B" ∧ Arv Z h b742_874 k742_874 .byte (1 : Int32) [(.int (nar .byte ((nar .char (c0.toUInt32.toUInt16.toUInt32.toInt32)).toInt8.toInt32)))] (.int (0 : Int32)) ∧ Fld Z h b552 "java/lang/String" "coder" "B" (.int (0 : Int32)) ∧ Fld Z h b552 "java/lang/String" "value" "[B" (.ref b742_874) ∧ (h0.size ≤ b742_874)
set_option maxRecDepth 65536 in
set_option maxHeartbeats 40000000 in
theorem rm_init4_1 (l : Launch) (Z : State) (a0 : Array Value) (hw : ∀ d ∈ tables_1, d.before a0 Z = true) (ws : List Jvm.Cond) (b552 : Addr) (b558 : Addr) (cz : Int32) (c0 : Int32) (k558 : ClassId) (h0 : Heap) (n0 : Nat) (O0 : Old Z n0 h0) (G0 : Sta Z Z.heap "java/lang/String" "COMPACT_STRINGS" "Z" (.int cz)) (g_b552 : n0 ≤ b552) (Fi0 : Exa Z h0 b552 "java/lang/String") (Fi1 : Fld Z h0 b552 "java/lang/String" "coder" "B" (.int (0 : Int32))) (Fi2 : Fld Z h0 b552 "java/lang/String" "value" "[B" .null) (Fi3 : Exa Z h0 b558 "[C") (Fi4 : Arv Z h0 b558 k558 .char (1 : Int32) [(.int (nar .char (c0.toUInt32.toUInt16.toUInt32.toInt32)))] (.int (0 : Int32))) (q0 : ¬ ((0 : Int32) = cz)) (q1 : own_u8 c0) (q2 : ¬ (b558 = b552)) :
    MetFree l (⟨"java/lang/String", "<init>", "([CIILjava/lang/Void;)V"⟩ : MethodName) (head1 (Jvm.Cond.code (⟨"java/lang/String", "<init>", "([CIILjava/lang/Void;)V"⟩ : MethodName) jdk_42_method_149_code 6 none :: ws) ({ frames := 2, cells := 1, slots := 1, locals := 35 } : Room)) (fun a U => a = #[(.ref b552), (.ref b558), (.int (0 : Int32)), (.int (1 : Int32)), .null] ∧ Z.Warmed39 U.vm ∧ U.heap = h0) (fun _ _ _ _ _ => True) (fun _ U o U' => ∃ v L, o = .returned v ∧ Q_init4_1 Z b552 b558 cz c0 k558 h0 n0 v U'.heap L ∧ FrameEnd U o U' L ({ frames := 2, cells := 1, slots := 1, locals := 35 } : Room).cells ({ frames := 2, cells := 1, slots := 1, locals := 35 } : Room).slots) := by
  refine MetFree.of_bodySF (plainFor_of_name pn_13) hisR ?_
  intro p e s m args below meth c s₁ Bd hml0 hP hK
  have W := fun {d : Jvm.Cond} (i : Nat) (q : tables_1[i]? = some d) => hw d (List.mem_of_getElem? q)
  obtain ⟨rfl, hZ, hh⟩ := hP
  have hx := Bd.exec
  have hby := Bd.bytes
  have hml : c.maxLocals = 6 := hml0
  have hown : s.vm.findClass "java/lang/String" = some m.cls := findClass_of_methodNamed Bd.named
  have hnm := (name_of_methodNamed Bd.named Bd.method).1
  have X0 : Stand p l e ({ frames := 2, cells := 1, slots := 1, locals := 35 } : Room) s m #[(.ref b552), (.ref b558), (.int (0 : Int32)), (.int (1 : Int32)), .null] below meth c s₁ [] 0 0 := Stand.of_body Bd
  have e0 : s₁.heap = h0 := by rw [← hh, Bd.state]; rfl
  have N0 := Fr.nil n0
  have pre0 : ∀ t, Steps p.tables e below (s₁.setTop (mkF m 0 #[rv b552, rv b558, iv (0 : Int32), iv (1 : Int32), .val .null, .unset] [])) t → Steps p.tables e below (s₁.setTop (entryFrame m #[(.ref b552), (.ref b558), (.int (0 : Int32)), (.int (1 : Int32)), .null] 6)) t := fun t k => castTop (ef_14 m b552 b558 (0 : Int32) (1 : Int32)) k
  have K0 : Keep h0 h0 [b552] := Keep.refl h0 [b552]
  have pre867 : ∀ t, Steps p.tables e below (s₁.setTop (mkF m 1 #[rv b552, rv b558, iv (0 : Int32), iv (1 : Int32), .val .null, .unset] [(.ref b552)])) t → Steps p.tables e below (s₁.setTop (entryFrame m #[(.ref b552), (.ref b558), (.int (0 : Int32)), (.int (1 : Int32)), .null] 6)) t := fun t kt => by
    refine pre0 _ ?_
    show Steps p.tables e below (s₁.setTop (mkF m 0 #[rv b552, rv b558, iv (0 : Int32), iv (1 : Int32), .val .null, .unset] [])) _
    refine XS.aloadN X0.here hx rfl (hb hby d4_0) rfl rfl ?_
    exact kt
  obtain ⟨T868, X868, e868, st868⟩ := initO X0 hx hZ hown (W 18 rfl) (W 19 rfl) (W 20 rfl) e0 (g := (mkF m 1 #[rv b552, rv b558, iv (0 : Int32), iv (1 : Int32), .val .null, .unset] [(.ref b552)])) rfl (by rw [hml]; rfl) rfl (hb hby d4_1) (by decide) (W := 0) (by show 2 * 0 + _ ≤ _; exact Nat.le_of_eq rfl) (by decide)
  have pre869 : ∀ t, Steps p.tables e below (T868.setTop (mkF m 4 #[rv b552, rv b558, iv (0 : Int32), iv (1 : Int32), .val .null, .unset] [])) t → Steps p.tables e below (s₁.setTop (entryFrame m #[(.ref b552), (.ref b558), (.int (0 : Int32)), (.int (1 : Int32)), .null] 6)) t := fun t kt => pre867 _ (st868 _ kt)
  have pre870 : ∀ t, Steps p.tables e below (T868.setTop (mkF m 27 #[rv b552, rv b558, iv (0 : Int32), iv (1 : Int32), .val .null, .unset] [])) t → Steps p.tables e below (s₁.setTop (entryFrame m #[(.ref b552), (.ref b558), (.int (0 : Int32)), (.int (1 : Int32)), .null] 6)) t := fun t kt => by
    refine pre869 _ ?_
    show Steps p.tables e below (T868.setTop (mkF m 4 #[rv b552, rv b558, iv (0 : Int32), iv (1 : Int32), .val .null, .unset] [])) _
    refine XS.iloadN X868.here hx rfl (hb hby d4_4) rfl ?_
    refine XS.ifYes X868.here hx rfl (pc0 := 5) (pc' := 27) rfl (hb hby d4_5) rfl (XT.i0_ne_t (by decide)) (by decide) (by decide) ?_
    exact kt
  obtain ⟨T871, X871, e871, st871⟩ := getS2 X868 hx hZ hown (host := "") (Or.inl (W 21 rfl)) Via.refl e868 (G0.ext O0.2) (g := (mkF m 27 #[rv b552, rv b558, iv (0 : Int32), iv (1 : Int32), .val .null, .unset] [])) rfl (hb hby d4_27)
  have pre872 : ∀ t, Steps p.tables e below (T871.setTop (mkF m 30 #[rv b552, rv b558, iv (0 : Int32), iv (1 : Int32), .val .null, .unset] [(.int cz)])) t → Steps p.tables e below (s₁.setTop (entryFrame m #[(.ref b552), (.ref b558), (.int (0 : Int32)), (.int (1 : Int32)), .null] 6)) t := fun t kt => pre870 _ (st871 _ kt)
  have pre873 : ∀ t, Steps p.tables e below (T871.setTop (mkF m 36 #[rv b552, rv b558, iv (0 : Int32), iv (1 : Int32), .val .null, .unset] [(.int (1 : Int32)), (.int (0 : Int32)), (.ref b558)])) t → Steps p.tables e below (s₁.setTop (entryFrame m #[(.ref b552), (.ref b558), (.int (0 : Int32)), (.int (1 : Int32)), .null] 6)) t := fun t kt => by
    refine pre872 _ ?_
    show Steps p.tables e below (T871.setTop (mkF m 30 #[rv b552, rv b558, iv (0 : Int32), iv (1 : Int32), .val .null, .unset] [(.int cz)])) _
    refine XS.ifNo X871.here hx rfl (hb hby d4_30) rfl (XT.i0_eq_f (fun q => q0 q.symm)) ?_
    refine XS.aloadN X871.here hx rfl (hb hby d4_33) rfl rfl ?_
    refine XS.iloadN X871.here hx rfl (hb hby d4_34) rfl ?_
    refine XS.iloadN X871.here hx rfl (hb hby d4_35) rfl ?_
    exact kt
  obtain ⟨_, _, ⟨T874, L874, k874, n874⟩, -, X874, ⟨Lc874, hQ874, l874, y874, z874⟩, st874⟩ := Jvm.LawKit.callS X871 hx (y := (⟨"java/lang/StringUTF16", "compress", "([CII)[B"⟩ : MethodName)) hown (mvT hZ (W 22 rfl)) (mvT hZ (W 23 rfl)) (mvT hZ (W 24 rfl)) (mvT hZ (W 25 rfl)) (by decide) (backOf (W := 0) (rm_compress6_1 l Z a0 hw [] b558 c0 k558 h0 n0 O0 Fi3 Fi4 q1) hZ (W 25 rfl) (W 24 rfl) (by decide) (by decide)) (g := (mkF m 36 #[rv b552, rv b558, iv (0 : Int32), iv (1 : Int32), .val .null, .unset] [(.int (1 : Int32)), (.int (0 : Int32)), (.ref b558)])) rfl (by rw [hml]; rfl) (argsL := [(.ref b558), (.int (0 : Int32)), (.int (1 : Int32))]) (rest := []) (lenOf pd_10 rfl) rfl (by show 2 * 0 + _ ≤ _; exact Nat.le_of_eq rfl) (hb hby d4_36) (fun _ _ => ⟨rfl, e871, (by decide : 0 + 1 ≤ _), (by decide : 0 + 1 ≤ _)⟩)
  dsimp only [Pt.U, Pt.locs, Pt.cells, Pt.slots] at X874 l874 y874 z874 st874 hQ874
  subst l874 y874 z874
  obtain ⟨b742_874, k742_874, rfl, M874, Kc874, O874, J874_0, J874_1, P874_0⟩ := hQ874
  obtain ⟨h874, e874⟩ : ∃ z, T874.heap = z := ⟨_, rfl⟩
  rw [e874] at Kc874 O874 J874_0 J874_1
  try rw [e874] at P874_0
  have N874 := Fr.app N0 M874
  have K874 : Keep h0 h874 [b552] := K0.trans Kc874 (own_all0 )
  have pre875 : ∀ t, Steps p.tables e below (T874.setTop (mkF m 39 #[rv b552, rv b558, iv (0 : Int32), iv (1 : Int32), .val .null, .unset] [(.ref b742_874)])) t → Steps p.tables e below (s₁.setTop (entryFrame m #[(.ref b552), (.ref b558), (.int (0 : Int32)), (.int (1 : Int32)), .null] 6)) t := fun t kt => pre873 _ (st874 _ kt)
  have F876 := Fi0.keep Kc874
  have F877 := Fi1.keep Kc874 (own_nm0 )
  have F878 := Fi2.keep Kc874 (own_nm0 )
  have F879 := Fi3.keep Kc874
  have F880 := Fi4.keep Kc874 (own_nm0 )
  have sz_b742_874 : h0.size ≤ b742_874 := Nat.le_trans K0.1 P874_0
  have ne_b552_b742_874 : b552 ≠ b742_874 := Nat.ne_of_lt (Nat.lt_of_lt_of_le Fi0.lt P874_0)
  have ne_b558_b742_874 : b558 ≠ b742_874 := Nat.ne_of_lt (Nat.lt_of_lt_of_le Fi3.lt P874_0)
  have g_b742_874 : n0 ≤ b742_874 := Nat.le_trans (Nat.le_trans (Nat.le_of_eq O0.1.symm) O0.2.1) sz_b742_874
  have pre881 : ∀ t, Steps p.tables e below (T874.setTop (mkF m 45 #[rv b552, rv b558, iv (0 : Int32), iv (1 : Int32), .val .null, rv b742_874] [(.int (1 : Int32)), (.ref b742_874), (.ref b552)])) t → Steps p.tables e below (s₁.setTop (entryFrame m #[(.ref b552), (.ref b558), (.int (0 : Int32)), (.int (1 : Int32)), .null] 6)) t := fun t kt => by
    refine pre875 _ ?_
    show Steps p.tables e below (T874.setTop (mkF m 39 #[rv b552, rv b558, iv (0 : Int32), iv (1 : Int32), .val .null, .unset] [(.ref b742_874)])) _
    refine XS.astore X874.here hx rfl (hb hby d4_39) rfl rfl (l' := #[rv b552, rv b558, iv (0 : Int32), iv (1 : Int32), .val .null, rv b742_874]) rfl ?_
    refine XS.aloadN X874.here hx rfl (hb hby d4_41) rfl rfl ?_
    refine XS.aload X874.here hx rfl (hb hby d4_42) rfl rfl ?_
    refine XS.iloadN X874.here hx rfl (hb hby d4_44) rfl ?_
    exact kt
  obtain ⟨_, _, ⟨T882, L882, k882, n882⟩, -, X882, ⟨Lc882, hQ882, l882, y882, z882⟩, st882⟩ := Jvm.LawKit.callS X874 hx (y := (⟨"java/lang/StringUTF16", "coderFromArrayLen", "([BI)B"⟩ : MethodName)) hown (mvT hZ (W 30 rfl)) (mvT hZ (W 31 rfl)) (mvT hZ (W 24 rfl)) (mvT hZ (W 32 rfl)) (by decide) (backOf (W := 1) (rm_coderFromArrayLen8_5 l Z a0 hw [] b742_874 c0 k742_874 h874 n0 O874 J874_1) hZ (W 32 rfl) (W 24 rfl) (by decide) (by decide)) (g := (mkF m 45 #[rv b552, rv b558, iv (0 : Int32), iv (1 : Int32), .val .null, rv b742_874] [(.int (1 : Int32)), (.ref b742_874), (.ref b552)])) rfl (by rw [hml]; rfl) (argsL := [(.ref b742_874), (.int (1 : Int32))]) (rest := [(.ref b552)]) (lenOf pd_12 rfl) rfl (by show 2 * 0 + _ ≤ _; exact Nat.le_of_eq rfl) (hb hby d4_45) (fun _ _ => ⟨rfl, e874, (by decide : 1 + 0 ≤ _), (by decide : 1 + 0 ≤ _)⟩)
  dsimp only [Pt.U, Pt.locs, Pt.cells, Pt.slots] at X882 l882 y882 z882 st882 hQ882
  subst l882 y882 z882
  obtain ⟨rfl, M882, e882⟩ := hQ882
  have N882 := Fr.app N874 M882
  have pre892 : ∀ t, Steps p.tables e below (T882.setTop (mkF m 48 #[rv b552, rv b558, iv (0 : Int32), iv (1 : Int32), .val .null, rv b742_874] [(.int (0 : Int32)), (.ref b552)])) t → Steps p.tables e below (s₁.setTop (entryFrame m #[(.ref b552), (.ref b558), (.int (0 : Int32)), (.int (1 : Int32)), .null] 6)) t := fun t kt => pre881 _ (st882 _ kt)
  obtain ⟨T893, h893, X893, e893, W893, st893⟩ := putFN X882 hx hZ hown (W 33 rfl) Via.refl e882 F877 F876 (Or.inr ⟨(W 34 rfl), rfl, hnm⟩) (W 8 rfl) (ty := .byte) (v' := (.int (0 : Int32))) (by decide) rfl rfl (g := (mkF m 48 #[rv b552, rv b558, iv (0 : Int32), iv (1 : Int32), .val .null, rv b742_874] [(.int (0 : Int32)), (.ref b552)])) rfl rfl (hb hby d4_48)
  have pre894 : ∀ t, Steps p.tables e below (T893.setTop (mkF m 51 #[rv b552, rv b558, iv (0 : Int32), iv (1 : Int32), .val .null, rv b742_874] [])) t → Steps p.tables e below (s₁.setTop (entryFrame m #[(.ref b552), (.ref b558), (.int (0 : Int32)), (.int (1 : Int32)), .null] 6)) t := fun t kt => pre892 _ (st893 _ kt)
  have N893 := Fr.snoc X893 N882 g_b552
  have O893 := O874.wr W893 g_b552
  have K893 : Keep h0 h893 [b552] := K874.wr W893 (Or.inl (List.mem_of_getElem? (i := 0) rfl))
  have F895 := F876.wr W893
  have F896 := F878.other W893 (Or.inr (slot_ne (Or.inr (W 36 rfl)) (Or.inr (W 34 rfl)) (by decide) (t := (.array .byte)) (t' := .byte) (by decide) (by decide)))
  have F897 := F879.wr W893
  have F898 := F880.other W893 q2
  have F899 := J874_0.wr W893
  have F900 := J874_1.other W893 (fun q => ne_b552_b742_874 q.symm)
  have F901 : Fld Z h893 b552 "java/lang/String" "coder" "B" (.int (0 : Int32)) := F877.same W893
  have pre902 : ∀ t, Steps p.tables e below (T893.setTop (mkF m 54 #[rv b552, rv b558, iv (0 : Int32), iv (1 : Int32), .val .null, rv b742_874] [(.ref b742_874), (.ref b552)])) t → Steps p.tables e below (s₁.setTop (entryFrame m #[(.ref b552), (.ref b558), (.int (0 : Int32)), (.int (1 : Int32)), .null] 6)) t := fun t kt => by
    refine pre894 _ ?_
    show Steps p.tables e below (T893.setTop (mkF m 51 #[rv b552, rv b558, iv (0 : Int32), iv (1 : Int32), .val .null, rv b742_874] [])) _
    refine XS.aloadN X893.here hx rfl (hb hby d4_51) rfl rfl ?_
    refine XS.aload X893.here hx rfl (hb hby d4_52) rfl rfl ?_
    exact kt
  obtain ⟨T903, h903, X903, e903, W903, st903⟩ := putF X893 hx hZ hown (host := "") (Or.inl (W 35 rfl)) Via.refl e893 F896 F895 (Or.inr ⟨(W 36 rfl), rfl, hnm⟩) (W 8 rfl) (ty := (.array .byte)) (by decide) rfl rfl (g := (mkF m 54 #[rv b552, rv b558, iv (0 : Int32), iv (1 : Int32), .val .null, rv b742_874] [(.ref b742_874), (.ref b552)])) rfl rfl (hb hby d4_54)
  have pre904 : ∀ t, Steps p.tables e below (T903.setTop (mkF m 57 #[rv b552, rv b558, iv (0 : Int32), iv (1 : Int32), .val .null, rv b742_874] [])) t → Steps p.tables e below (s₁.setTop (entryFrame m #[(.ref b552), (.ref b558), (.int (0 : Int32)), (.int (1 : Int32)), .null] 6)) t := fun t kt => pre902 _ (st903 _ kt)
  have N903 := Fr.snoc X903 N893 g_b552
  have O903 := O893.wr W903 g_b552
  have K903 : Keep h0 h903 [b552] := K893.wr W903 (Or.inl (List.mem_of_getElem? (i := 0) rfl))
  have F905 := F895.wr W903
  have F906 := F897.wr W903
  have F907 := F898.other W903 q2
  have F908 := F899.wr W903
  have F909 := F900.other W903 (fun q => ne_b552_b742_874 q.symm)
  have F910 := F901.other W903 (Or.inr (slot_ne (Or.inr (W 34 rfl)) (Or.inr (W 36 rfl)) (by decide) (t := .byte) (t' := (.array .byte)) (by decide) (by decide)))
  have F911 : Fld Z h903 b552 "java/lang/String" "value" "[B" (.ref b742_874) := F896.same W903
  obtain ⟨fs, hr, hrun, hended, hW, hsame⟩ := X903.leave (v := none) (fun _ => rfl)
  refine ⟨_, _, pre904 _ (X903.returnOut hx Bd.returns (hb hby d4_57) hr), hrun, hended, _, _, rfl, ?_, ⟨_, rfl⟩, hW, hsame.mono (by decide) (by decide)⟩
  show Q_init4_1 Z b552 b558 cz c0 k558 h0 n0 _ T903.heap _
  rw [e903]
  exact ⟨b742_874, k742_874, rfl, N903, K903, O903, F905, F908, F909, F910, F911, sz_b742_874⟩
def Q_init3_1 (Z : State) (b552 : Addr) (b558 : Addr) (cz : Int32) (c0 : Int32) (k558 : ClassId) (h0 : Heap) (n0 : Nat) (v : Option Value) (h : Heap) (L : List Loc) : Prop := ∃ (b742_925 : Addr) (k742_925 : ClassId), v = none ∧ Fr n0 L ∧ Keep h0 h [b552] ∧ Old Z n0 h ∧ Exa Z h b552 "java/lang/String" ∧ Exa Z h b742_925 "[B" ∧ Arv Z h b742_925 k742_925 .byte (1 : Int32) [(.int (nar .byte ((nar .char (c0.toUInt32.toUInt16.toUInt32.toInt32)).toInt8.toInt32)))] (.int (0 : Int32)) ∧ Fld Z h b552 "java/lang/String" "coder" "B" (.int (0 : Int32)) ∧ Fld Z h b552 "java/lang/String" "value" "[B" (.ref b742_925) ∧ (h0.size ≤ b742_925)
set_option maxRecDepth 65536 in
set_option maxHeartbeats 40000000 in
theorem rm_init3_1 (l : Launch) (Z : State) (a0 : Array Value) (hw : ∀ d ∈ tables_1, d.before a0 Z = true) (ws : List Jvm.Cond) (b552 : Addr) (b558 : Addr) (cz : Int32) (c0 : Int32) (k558 : ClassId) (h0 : Heap) (n0 : Nat) (O0 : Old Z n0 h0) (G0 : Sta Z Z.heap "java/lang/String" "COMPACT_STRINGS" "Z" (.int cz)) (g_b552 : n0 ≤ b552) (Fi0 : Exa Z h0 b552 "java/lang/String") (Fi1 : Fld Z h0 b552 "java/lang/String" "coder" "B" (.int (0 : Int32))) (Fi2 : Fld Z h0 b552 "java/lang/String" "value" "[B" .null) (Fi3 : Exa Z h0 b558 "[C") (Fi4 : Arv Z h0 b558 k558 .char (1 : Int32) [(.int (nar .char (c0.toUInt32.toUInt16.toUInt32.toInt32)))] (.int (0 : Int32))) (q0 : ¬ ((0 : Int32) = cz)) (q1 : own_u8 c0) (q2 : ¬ (b558 = b552)) :
    MetFree l (⟨"java/lang/String", "<init>", "([C)V"⟩ : MethodName) (head1 (Jvm.Cond.code (⟨"java/lang/String", "<init>", "([C)V"⟩ : MethodName) jdk_42_method_3_code 2 none :: ws) ({ frames := 3, cells := 1, slots := 1, locals := 52 } : Room)) (fun a U => a = #[(.ref b552), (.ref b558)] ∧ Z.Warmed39 U.vm ∧ U.heap = h0) (fun _ _ _ _ _ => True) (fun _ U o U' => ∃ v L, o = .returned v ∧ Q_init3_1 Z b552 b558 cz c0 k558 h0 n0 v U'.heap L ∧ FrameEnd U o U' L ({ frames := 3, cells := 1, slots := 1, locals := 52 } : Room).cells ({ frames := 3, cells := 1, slots := 1, locals := 52 } : Room).slots) := by
  refine MetFree.of_bodySF (plainFor_of_name pn_13) hisR ?_
  intro p e s m args below meth c s₁ Bd hml0 hP hK
  have W := fun {d : Jvm.Cond} (i : Nat) (q : tables_1[i]? = some d) => hw d (List.mem_of_getElem? q)
  obtain ⟨rfl, hZ, hh⟩ := hP
  have hx := Bd.exec
  have hby := Bd.bytes
  have hml : c.maxLocals = 2 := hml0
  have hown : s.vm.findClass "java/lang/String" = some m.cls := findClass_of_methodNamed Bd.named
  have hnm := (name_of_methodNamed Bd.named Bd.method).1
  have X0 : Stand p l e ({ frames := 3, cells := 1, slots := 1, locals := 52 } : Room) s m #[(.ref b552), (.ref b558)] below meth c s₁ [] 0 0 := Stand.of_body Bd
  have e0 : s₁.heap = h0 := by rw [← hh, Bd.state]; rfl
  have N0 := Fr.nil n0
  have pre0 : ∀ t, Steps p.tables e below (s₁.setTop (mkF m 0 #[rv b552, rv b558] [])) t → Steps p.tables e below (s₁.setTop (entryFrame m #[(.ref b552), (.ref b558)] 2)) t := fun t k => castTop (ef_16 m b552 b558) k
  have K0 : Keep h0 h0 [b552] := Keep.refl h0 [b552]
  have pre923 : ∀ t, Steps p.tables e below (s₁.setTop (mkF m 4 #[rv b552, rv b558] [(.ref b558), (.int (0 : Int32)), (.ref b558), (.ref b552)])) t → Steps p.tables e below (s₁.setTop (entryFrame m #[(.ref b552), (.ref b558)] 2)) t := fun t kt => by
    refine pre0 _ ?_
    show Steps p.tables e below (s₁.setTop (mkF m 0 #[rv b552, rv b558] [])) _
    refine XS.aloadN X0.here hx rfl (hb hby d3_0) rfl rfl ?_
    refine XS.aloadN X0.here hx rfl (hb hby d3_1) rfl rfl ?_
    refine XS.iconst X0.here hx rfl (hb hby d3_2) ?_
    refine XS.aloadN X0.here hx rfl (hb hby d3_3) rfl rfl ?_
    exact kt
  obtain ⟨c922, Ar922, -, S922, M922, -, -⟩ := id Fi4
  have pre924 : ∀ t, Steps p.tables e below (s₁.setTop (mkF m 6 #[rv b552, rv b558] [.null, (.int (1 : Int32)), (.int (0 : Int32)), (.ref b558), (.ref b552)])) t → Steps p.tables e below (s₁.setTop (entryFrame m #[(.ref b552), (.ref b558)] 2)) t := fun t kt => by
    refine pre923 _ ?_
    show Steps p.tables e below (s₁.setTop (mkF m 4 #[rv b552, rv b558] [(.ref b558), (.int (0 : Int32)), (.ref b558), (.ref b552)])) _
    refine X0.arraylength hx (by rw [e0]; exact Ar922.1) (State.isArrayOf_alike hZ.alike Ar922.2.1) (g := (mkF m 4 #[rv b552, rv b558] [(.ref b558), (.int (0 : Int32)), (.ref b558), (.ref b552)])) rfl rfl (hb hby d3_4) _ ?_
    rw [len_of S922 M922]
    refine XS.aconstNull X0.here hx rfl (hb hby d3_5) ?_
    exact kt
  obtain ⟨_, _, ⟨T925, L925, k925, n925⟩, -, X925, ⟨Lc925, hQ925, l925, y925, z925⟩, st925⟩ := X0.specialBack hx (y := (⟨"java/lang/String", "<init>", "([CIILjava/lang/Void;)V"⟩ : MethodName)) rfl hown (mvT hZ (W 14 rfl)) (mvT hZ (W 15 rfl)) (mvT hZ (W 17 rfl)) (by decide) (backOf (W := 0) (rm_init4_1 l Z a0 hw [] b552 b558 cz c0 k558 h0 n0 O0 G0 g_b552 Fi0 Fi1 Fi2 Fi3 Fi4 q0 q1 q2) hZ (W 17 rfl) (W 9 rfl) (by decide) (by decide)) (g := (mkF m 6 #[rv b552, rv b558] [.null, (.int (1 : Int32)), (.int (0 : Int32)), (.ref b558), (.ref b552)])) rfl (by rw [hml]; rfl) (Steps.refl _) (a := b552) (argsL := [(.ref b558), (.int (0 : Int32)), (.int (1 : Int32)), .null]) (rest := []) (lenOf pd_15 rfl) rfl (by show 2 * 0 + _ ≤ _; exact Nat.le_of_eq rfl) (hb hby d3_6) (fun _ _ => ⟨rfl, e0, (by decide : 0 + 1 ≤ _), (by decide : 0 + 1 ≤ _)⟩)
  dsimp only [Pt.U, Pt.locs, Pt.cells, Pt.slots] at X925 l925 y925 z925 st925 hQ925
  subst l925 y925 z925
  obtain ⟨b742_925, k742_925, rfl, M925, Kc925, O925, J925_0, J925_1, J925_2, J925_3, J925_4, P925_0⟩ := hQ925
  obtain ⟨h925, e925⟩ : ∃ z, T925.heap = z := ⟨_, rfl⟩
  rw [e925] at Kc925 O925 J925_0 J925_1 J925_2 J925_3 J925_4
  try rw [e925] at P925_0
  have N925 := Fr.app N0 M925
  have K925 : Keep h0 h925 [b552] := K0.trans Kc925 (own_all1 (Or.inl (List.mem_of_getElem? (i := 0) rfl)))
  have pre926 : ∀ t, Steps p.tables e below (T925.setTop (mkF m 9 #[rv b552, rv b558] [])) t → Steps p.tables e below (s₁.setTop (entryFrame m #[(.ref b552), (.ref b558)] 2)) t := fun t kt => pre924 _ (st925.trans kt)
  have F927 := Fi3.keep Kc925
  have F928 := Fi4.keep Kc925 (own_nm1 q2)
  have sz_b742_925 : h0.size ≤ b742_925 := Nat.le_trans K0.1 P925_0
  have ne_b552_b742_925 : b552 ≠ b742_925 := Nat.ne_of_lt (Nat.lt_of_lt_of_le Fi0.lt P925_0)
  have ne_b558_b742_925 : b558 ≠ b742_925 := Nat.ne_of_lt (Nat.lt_of_lt_of_le Fi3.lt P925_0)
  have g_b742_925 : n0 ≤ b742_925 := Nat.le_trans (Nat.le_trans (Nat.le_of_eq O0.1.symm) O0.2.1) sz_b742_925
  obtain ⟨fs, hr, hrun, hended, hW, hsame⟩ := X925.leave (v := none) (fun _ => rfl)
  refine ⟨_, _, pre926 _ (X925.returnOut hx Bd.returns (hb hby d3_9) hr), hrun, hended, _, _, rfl, ?_, ⟨_, rfl⟩, hW, hsame.mono (by decide) (by decide)⟩
  show Q_init3_1 Z b552 b558 cz c0 k558 h0 n0 _ T925.heap _
  rw [e925]
  exact ⟨b742_925, k742_925, rfl, N925, K925, O925, J925_0, J925_1, J925_2, J925_3, J925_4, sz_b742_925⟩
def Q_str1 (Z : State) (c0 : Int32) (c1 : Int32) (cz : Int32) (h0 : Heap) (n0 : Nat) (v : Option Value) (h : Heap) (L : List Loc) : Prop := ∃ (r : Addr), v = some (.ref r) ∧ Fr n0 L ∧ Keep h0 h [] ∧ Old Z n0 h ∧ own_str Z h r (0 : Int32) (own_b c0) (own_b c1) ∧ (h0.size ≤ r)
set_option maxRecDepth 65536 in
set_option maxHeartbeats 40000000 in
theorem rm_str1 (l : Launch) (Z : State) (a0 : Array Value) (hw : ∀ d ∈ tables_1, d.before a0 Z = true) (ws : List Jvm.Cond) (c0 : Int32) (c1 : Int32) (cz : Int32) (h0 : Heap) (n0 : Nat) (O0 : Old Z n0 h0) (G0 : Sta Z Z.heap "java/lang/String" "COMPACT_STRINGS" "Z" (.int cz)) (qz : ¬ (cz = (0 : Int32))) (u0 : own_u8 c0) :
    MetFree l (⟨"com/example/homethread/homethread/cli/ScenarioReportExitStatusPinLaw", "str", "(IIZ)Ljava/lang/String;"⟩ : MethodName) (head1 (Jvm.Cond.code (⟨"com/example/homethread/homethread/cli/ScenarioReportExitStatusPinLaw", "str", "(IIZ)Ljava/lang/String;"⟩ : MethodName) method_2_code 3 (some (.object "java/lang/String")) :: ws) ({ frames := 4, cells := 3, slots := 6, locals := 66 } : Room)) (fun a U => a = #[(.int c0), (.int c1), (.int (0 : Int32))] ∧ Z.Warmed39 U.vm ∧ U.heap = h0) (fun _ _ _ _ _ => True) (fun _ U o U' => ∃ v L, o = .returned v ∧ Q_str1 Z c0 c1 cz h0 n0 v U'.heap L ∧ FrameEnd U o U' L ({ frames := 4, cells := 3, slots := 6, locals := 66 } : Room).cells ({ frames := 4, cells := 3, slots := 6, locals := 66 } : Room).slots) := by
  refine MetFree.of_bodySF (plainFor_of_name pn_0) hisR ?_
  intro p e s m args below meth c s₁ Bd hml0 hP hK
  have W := fun {d : Jvm.Cond} (i : Nat) (q : tables_1[i]? = some d) => hw d (List.mem_of_getElem? q)
  obtain ⟨rfl, hZ, hh⟩ := hP
  have hx := Bd.exec
  have hby := Bd.bytes
  have hml : c.maxLocals = 3 := hml0
  have hown : s.vm.findClass "com/example/homethread/homethread/cli/ScenarioReportExitStatusPinLaw" = some m.cls := findClass_of_methodNamed Bd.named
  have hnm := (name_of_methodNamed Bd.named Bd.method).1
  have X0 : Stand p l e ({ frames := 4, cells := 3, slots := 6, locals := 66 } : Room) s m #[(.int c0), (.int c1), (.int (0 : Int32))] below meth c s₁ [] 0 0 := Stand.of_body Bd
  have e0 : s₁.heap = h0 := by rw [← hh, Bd.state]; rfl
  have N0 := Fr.nil n0
  have pre0 : ∀ t, Steps p.tables e below (s₁.setTop (mkF m 0 #[iv c0, iv c1, iv (0 : Int32)] [])) t → Steps p.tables e below (s₁.setTop (entryFrame m #[(.int c0), (.int c1), (.int (0 : Int32))] 3)) t := fun t k => castTop (ef_5 m c0 c1 (0 : Int32)) k
  have K0 : Keep h0 h0 [] := Keep.refl h0 []
  have pre551 : ∀ t, Steps p.tables e below (s₁.setTop (mkF m 27 #[iv c0, iv c1, iv (0 : Int32)] [])) t → Steps p.tables e below (s₁.setTop (entryFrame m #[(.int c0), (.int c1), (.int (0 : Int32))] 3)) t := fun t kt => by
    refine pre0 _ ?_
    show Steps p.tables e below (s₁.setTop (mkF m 0 #[iv c0, iv c1, iv (0 : Int32)] [])) _
    refine XS.iloadN X0.here hx rfl (hb hby d2_0) rfl ?_
    refine XS.ifYes X0.here hx rfl (pc0 := 1) (pc' := 27) rfl (hb hby d2_1) rfl (XT.i0_eq_t (by decide)) (by decide) (by decide) ?_
    exact kt
  obtain ⟨T552, h552, X552, e552, E552, A552, D552, -, st552⟩ := newO X0 hx hZ hown (W 7 rfl) (W 8 rfl) (W 9 rfl) e0 (g := (mkF m 27 #[iv c0, iv c1, iv (0 : Int32)] [])) rfl (hb hby d2_27) (by decide) (by decide)
  obtain ⟨b552, g552⟩ : ∃ z, z = h0.size := ⟨_, rfl⟩
  rw [← g552] at A552 D552 st552
  have pre553 : ∀ t, Steps p.tables e below (T552.setTop (mkF m 30 #[iv c0, iv c1, iv (0 : Int32)] [(.ref b552)])) t → Steps p.tables e below (s₁.setTop (entryFrame m #[(.int c0), (.int c1), (.int (0 : Int32))] 3)) t := fun t kt => pre551 _ (st552 _ kt)
  have O552 := O0.ext E552
  have K552 : Keep h0 h552 [] := K0.ext E552
  have g_b552 : n0 ≤ b552 := Nat.le_trans (Nat.le_trans (Nat.le_of_eq O0.1.symm) O0.2.1) (Nat.le_of_eq g552.symm)
  have sz_b552 : h0.size ≤ b552 := Nat.le_trans K0.1 (Nat.le_of_eq g552.symm)
  have F554 : Exa Z h552 b552 "java/lang/String" := A552
  have F555 : Fld Z h552 b552 "java/lang/String" "coder" "B" (.int (0 : Int32)) := D552 (Or.inr (W 34 rfl)) (ty := .byte) (by decide)
  have F556 : Fld Z h552 b552 "java/lang/String" "value" "[B" .null := D552 (Or.inr (W 36 rfl)) (ty := (.array .byte)) (by decide)
  have pre557 : ∀ t, Steps p.tables e below (T552.setTop (mkF m 32 #[iv c0, iv c1, iv (0 : Int32)] [(.int (1 : Int32)), (.ref b552), (.ref b552)])) t → Steps p.tables e below (s₁.setTop (entryFrame m #[(.int c0), (.int c1), (.int (0 : Int32))] 3)) t := fun t kt => by
    refine pre553 _ ?_
    show Steps p.tables e below (T552.setTop (mkF m 30 #[iv c0, iv c1, iv (0 : Int32)] [(.ref b552)])) _
    refine XS.dup X552.here hx rfl (hb hby d2_30) rfl rfl ?_
    refine XS.iconst X552.here hx rfl (hb hby d2_31) ?_
    exact kt
  obtain ⟨T558, h558, k558, X558, e558, E558, A558, B558, st558⟩ := newPE X552 hx hZ (W 10 rfl) e552 (g := (mkF m 32 #[iv c0, iv c1, iv (0 : Int32)] [(.int (1 : Int32)), (.ref b552), (.ref b552)])) rfl (hb hby d2_32) rfl (by decide) (cap := 1) (by decide) (by decide) (by decide) (by decide) (ad := "[C") (by decide)
  obtain ⟨b558, g558⟩ : ∃ z, z = h552.size := ⟨_, rfl⟩
  rw [← g558] at A558 B558 st558
  have pre559 : ∀ t, Steps p.tables e below (T558.setTop (mkF m 34 #[iv c0, iv c1, iv (0 : Int32)] [(.ref b558), (.ref b552), (.ref b552)])) t → Steps p.tables e below (s₁.setTop (entryFrame m #[(.int c0), (.int c1), (.int (0 : Int32))] 3)) t := fun t kt => pre557 _ (st558 _ kt)
  have O558 := O552.ext E558
  have K558 : Keep h0 h558 [] := K552.ext E558
  have F560 := F554.ext E558
  have F561 := F555.ext E558
  have F562 := F556.ext E558
  have g_b558 : n0 ≤ b558 := Nat.le_trans (Nat.le_trans (Nat.le_of_eq O552.1.symm) O552.2.1) (Nat.le_of_eq g558.symm)
  have sz_b558 : h0.size ≤ b558 := Nat.le_trans K552.1 (Nat.le_of_eq g558.symm)
  have ne_b552_b558 : b552 ≠ b558 := Nat.ne_of_lt (Nat.lt_of_lt_of_le F554.lt (Nat.le_of_eq g558.symm))
  have F563 : Exa Z h558 b558 "[C" := B558
  have F564 : Arv Z h558 b558 k558 .char (1 : Int32) [(.int (0 : Int32))] (.int (0 : Int32)) := (Arv.new A558 (by decide)).pad (pad_rep [] (.int (0 : Int32)) 1)
  have pre565 : ∀ t, Steps p.tables e below (T558.setTop (mkF m 38 #[iv c0, iv c1, iv (0 : Int32)] [(.int (c0.toUInt32.toUInt16.toUInt32.toInt32)), (.int (0 : Int32)), (.ref b558), (.ref b558), (.ref b552), (.ref b552)])) t → Steps p.tables e below (s₁.setTop (entryFrame m #[(.int c0), (.int c1), (.int (0 : Int32))] 3)) t := fun t kt => by
    refine pre559 _ ?_
    show Steps p.tables e below (T558.setTop (mkF m 34 #[iv c0, iv c1, iv (0 : Int32)] [(.ref b558), (.ref b552), (.ref b552)])) _
    refine XS.dup X558.here hx rfl (hb hby d2_34) rfl rfl ?_
    refine XS.iconst X558.here hx rfl (hb hby d2_35) ?_
    refine XS.iloadN X558.here hx rfl (hb hby d2_36) rfl ?_
    refine XS.i2c X558.here hx rfl (hb hby d2_37) rfl ?_
    exact kt
  obtain ⟨c566, Ar566, q566, S566, M566, H566, G566⟩ := id F564
  have i566 : ¬ ((0 : Int32) < 0 ∨ c566.slots.size ≤ ((0 : Int32)).toNatClampNeg) := inb_of S566 ⟨by decide, by decide⟩
  obtain ⟨T567, h567, X567, e567, W567, st567⟩ := stC X558 hx hZ e558 Ar566 (j := (0 : Int32)) i566 (g := (mkF m 38 #[iv c0, iv c1, iv (0 : Int32)] [(.int (c0.toUInt32.toUInt16.toUInt32.toInt32)), (.int (0 : Int32)), (.ref b558), (.ref b558), (.ref b552), (.ref b552)])) rfl rfl (hb hby d2_38)
  have pre568 : ∀ t, Steps p.tables e below (T567.setTop (mkF m 39 #[iv c0, iv c1, iv (0 : Int32)] [(.ref b558), (.ref b552), (.ref b552)])) t → Steps p.tables e below (s₁.setTop (entryFrame m #[(.int c0), (.int c1), (.int (0 : Int32))] 3)) t := fun t kt => pre565 _ (st567 _ kt)
  have N567 := Fr.snoc X567 N0 g_b558
  have O567 := O558.wr W567 g_b558
  have K567 : Keep h0 h567 [] := K558.wr W567 (Or.inr sz_b558)
  have F569 := F560.wr W567
  have F570 := F561.other W567 (Or.inl ne_b552_b558)
  have F571 := F562.other W567 (Or.inl ne_b552_b558)
  have F572 := F563.wr W567
  have F573 : Arv Z h567 b558 k558 .char (1 : Int32) [(.int (nar .char (c0.toUInt32.toUInt16.toUInt32.toInt32)))] (.int (0 : Int32)) := Arv.set Ar566 q566 S566 M566 H566 G566 (fits_nar_char _) W567 0 rfl (Nat.le_of_ble_eq_true rfl)
  obtain ⟨_, _, ⟨T574, L574, k574, n574⟩, -, X574, ⟨Lc574, hQ574, l574, y574, z574⟩, st574⟩ := X567.specialBack hx (y := (⟨"java/lang/String", "<init>", "([C)V"⟩ : MethodName)) rfl hown (mvT hZ (W 11 rfl)) (mvT hZ (W 12 rfl)) (mvT hZ (W 13 rfl)) (by decide) (backOf (W := 1) (rm_init3_1 l Z a0 hw [] b552 b558 cz c0 k558 h567 n0 O567 G0 g_b552 F569 F570 F571 F572 F573 (fun q => qz q.symm) u0 (fun q => ne_b552_b558 q.symm)) hZ (W 13 rfl) (W 9 rfl) (by decide) (by decide)) (g := (mkF m 39 #[iv c0, iv c1, iv (0 : Int32)] [(.ref b558), (.ref b552), (.ref b552)])) rfl (by rw [hml]; rfl) (Steps.refl _) (a := b552) (argsL := [(.ref b558)]) (rest := [(.ref b552)]) (lenOf pd_17 rfl) rfl (by show 2 * 0 + _ ≤ _; exact Nat.le_of_eq rfl) (hb hby d2_39) (fun _ _ => ⟨rfl, e567, (by decide : 2 + 1 ≤ _), (by decide : 5 + 1 ≤ _)⟩)
  dsimp only [Pt.U, Pt.locs, Pt.cells, Pt.slots] at X574 l574 y574 z574 st574 hQ574
  subst l574 y574 z574
  obtain ⟨b742_574, k742_574, rfl, M574, Kc574, O574, J574_0, J574_1, J574_2, J574_3, J574_4, P574_0⟩ := hQ574
  obtain ⟨h574, e574⟩ : ∃ z, T574.heap = z := ⟨_, rfl⟩
  rw [e574] at Kc574 O574 J574_0 J574_1 J574_2 J574_3 J574_4
  try rw [e574] at P574_0
  have N574 := Fr.app N567 M574
  have K574 : Keep h0 h574 [] := K567.trans Kc574 (own_all1 (Or.inr sz_b552))
  have pre929 : ∀ t, Steps p.tables e below (T574.setTop (mkF m 42 #[iv c0, iv c1, iv (0 : Int32)] [(.ref b552)])) t → Steps p.tables e below (s₁.setTop (entryFrame m #[(.int c0), (.int c1), (.int (0 : Int32))] 3)) t := fun t kt => pre568 _ (st574.trans kt)
  have F930 := F572.keep Kc574
  have F931 := F573.keep Kc574 (own_nm1 (fun q => ne_b552_b558 q.symm))
  have sz_b742_574 : h0.size ≤ b742_574 := Nat.le_trans K567.1 P574_0
  have ne_b552_b742_574 : b552 ≠ b742_574 := Nat.ne_of_lt (Nat.lt_of_lt_of_le F569.lt P574_0)
  have ne_b558_b742_574 : b558 ≠ b742_574 := Nat.ne_of_lt (Nat.lt_of_lt_of_le F572.lt P574_0)
  have g_b742_574 : n0 ≤ b742_574 := Nat.le_trans (Nat.le_trans (Nat.le_of_eq O0.1.symm) O0.2.1) sz_b742_574
  have F932 : own_str Z h574 b552 (0 : Int32) (own_b c0) (own_b c1) := ⟨b742_574, k742_574, _, J574_0, J574_3, J574_4, J574_2, rfl⟩
  obtain ⟨fs, hr, hrun, hended, hW, hsame⟩ := X574.leave (v := some (.ref b552)) (fun h => by rw [Bd.returns] at h; cases h)
  refine ⟨_, _, pre929 _ (X574.areturnOut hx rfl Bd.returns rfl (hb hby d2_42) hr), hrun, hended, _, _, rfl, ?_, ⟨_, rfl⟩, hW, hsame.mono (by decide) (by decide)⟩
  show Q_str1 Z c0 c1 cz h0 n0 _ T574.heap _
  rw [e574]
  exact ⟨b552, rfl, N574, K574, O574, F932, sz_b552⟩
theorem ef_18 (m : MethodId) (x0 : Int32) (x1 : Int32) : entryFrame m #[(.int x0), (.int x1)] 2 = mkF m 0 #[.val (.int x0), .val (.int x1)] [] := by first | (simp [entryFrame, mkF, argsToLocals, Value.category]; done) | rfl
theorem d1_0 : decode method_5_code 0 = .ok (.iload_n 0, 1) := by decide +kernel
theorem d1_1 : decode method_5_code 1 = .ok (.sipush 255, 3) := by decide +kernel
theorem d1_4 : decode method_5_code 4 = .ok (.iand, 1) := by decide +kernel
theorem d1_5 : decode method_5_code 5 = .ok (.iload_n 0, 1) := by decide +kernel
theorem d1_6 : decode method_5_code 6 = .ok (.bipush 8, 2) := by decide +kernel
theorem d1_8 : decode method_5_code 8 = .ok (.iushr, 1) := by decide +kernel
theorem d1_9 : decode method_5_code 9 = .ok (.sipush 255, 3) := by decide +kernel
theorem d1_12 : decode method_5_code 12 = .ok (.iand, 1) := by decide +kernel
theorem d1_13 : decode method_5_code 13 = .ok (.iload_n 1, 1) := by decide +kernel
theorem d1_14 : decode method_5_code 14 = .ok (.iconst 1, 1) := by decide +kernel
theorem d1_15 : decode method_5_code 15 = .ok (.iand, 1) := by decide +kernel
theorem d1_16 : decode method_5_code 16 = .ok (.ifCond .eq 7, 3) := by decide +kernel
theorem d1_23 : decode method_5_code 23 = .ok (.iconst 0, 1) := by decide +kernel
theorem d1_24 : decode method_5_code 24 = .ok (.invokestatic 12, 3) := by decide +kernel
theorem pd_19 : parseMethodDescriptor "(IIZ)Ljava/lang/String;" = some ⟨[.int, .int, .boolean], some (.object "java/lang/String")⟩ := by decide +kernel
theorem d1_27 : decode method_5_code 27 = .ok (.areturn, 1) := by decide +kernel
theorem d1_19 : decode method_5_code 19 = .ok (.iconst 1, 1) := by decide +kernel
theorem d1_20 : decode method_5_code 20 = .ok (.goto 4, 3) := by decide +kernel
def Q_exp (Z : State) (xp : Int32) (xl : Int32) (cz : Int32) (h0 : Heap) (n0 : Nat) (v : Option Value) (h : Heap) (L : List Loc) : Prop := ∃ (r : Addr), v = some (.ref r) ∧ Fr n0 L ∧ Keep h0 h [] ∧ Old Z n0 h ∧ own_str Z h r (xl &&& (1 : Int32)) (own_b (xp &&& (255 : Int32))) (own_b (((xp.toUInt32 >>> ((8 : Int32) &&& 31).toUInt32).toInt32) &&& (255 : Int32))) ∧ (h0.size ≤ r)
set_option maxRecDepth 65536 in
set_option maxHeartbeats 40000000 in
theorem rm_exp (l : Launch) (Z : State) (a0 : Array Value) (hw : ∀ d ∈ tables_1, d.before a0 Z = true) (ws : List Jvm.Cond) (xp : Int32) (xl : Int32) (cz : Int32) (h0 : Heap) (n0 : Nat) (O0 : Old Z n0 h0) (G0 : Sta Z Z.heap "java/lang/String" "COMPACT_STRINGS" "Z" (.int cz)) (qz : ¬ (cz = (0 : Int32))) :
    MetFree l (⟨"com/example/homethread/homethread/cli/ScenarioReportExitStatusPinLaw", "exp", "(II)Ljava/lang/String;"⟩ : MethodName) (head1 (Jvm.Cond.code (⟨"com/example/homethread/homethread/cli/ScenarioReportExitStatusPinLaw", "exp", "(II)Ljava/lang/String;"⟩ : MethodName) method_5_code 2 (some (.object "java/lang/String")) :: ws) ({ frames := 5, cells := 3, slots := 8, locals := 80 } : Room)) (fun a U => a = #[(.int xp), (.int xl)] ∧ Z.Warmed39 U.vm ∧ U.heap = h0) (fun _ _ _ _ _ => True) (fun _ U o U' => ∃ v L, o = .returned v ∧ Q_exp Z xp xl cz h0 n0 v U'.heap L ∧ FrameEnd U o U' L ({ frames := 5, cells := 3, slots := 8, locals := 80 } : Room).cells ({ frames := 5, cells := 3, slots := 8, locals := 80 } : Room).slots) := by
  refine MetFree.of_bodySF (plainFor_of_name pn_0) hisR ?_
  intro p e s m args below meth c s₁ Bd hml0 hP hK
  have W := fun {d : Jvm.Cond} (i : Nat) (q : tables_1[i]? = some d) => hw d (List.mem_of_getElem? q)
  obtain ⟨rfl, hZ, hh⟩ := hP
  have hx := Bd.exec
  have hby := Bd.bytes
  have hml : c.maxLocals = 2 := hml0
  have hown : s.vm.findClass "com/example/homethread/homethread/cli/ScenarioReportExitStatusPinLaw" = some m.cls := findClass_of_methodNamed Bd.named
  have hnm := (name_of_methodNamed Bd.named Bd.method).1
  have X0 : Stand p l e ({ frames := 5, cells := 3, slots := 8, locals := 80 } : Room) s m #[(.int xp), (.int xl)] below meth c s₁ [] 0 0 := Stand.of_body Bd
  have e0 : s₁.heap = h0 := by rw [← hh, Bd.state]; rfl
  have N0 := Fr.nil n0
  have pre0 : ∀ t, Steps p.tables e below (s₁.setTop (mkF m 0 #[iv xp, iv xl] [])) t → Steps p.tables e below (s₁.setTop (entryFrame m #[(.int xp), (.int xl)] 2)) t := fun t k => castTop (ef_18 m xp xl) k
  have K0 : Keep h0 h0 [] := Keep.refl h0 []
  have pre933 : ∀ t, Steps p.tables e below (s₁.setTop (mkF m 16 #[iv xp, iv xl] [(.int (xl &&& (1 : Int32))), (.int (((xp.toUInt32 >>> ((8 : Int32) &&& 31).toUInt32).toInt32) &&& (255 : Int32))), (.int (xp &&& (255 : Int32)))])) t → Steps p.tables e below (s₁.setTop (entryFrame m #[(.int xp), (.int xl)] 2)) t := fun t kt => by
    refine pre0 _ ?_
    show Steps p.tables e below (s₁.setTop (mkF m 0 #[iv xp, iv xl] [])) _
    refine XS.iloadN X0.here hx rfl (hb hby d1_0) rfl ?_
    refine XS.sipush X0.here hx rfl (hb hby d1_1) ?_
    refine XS.iand X0.here hx rfl (hb hby d1_4) rfl ?_
    refine XS.iloadN X0.here hx rfl (hb hby d1_5) rfl ?_
    refine XS.bipush X0.here hx rfl (hb hby d1_6) ?_
    refine XS.iushr X0.here hx rfl (hb hby d1_8) rfl ?_
    refine XS.sipush X0.here hx rfl (hb hby d1_9) ?_
    refine XS.iand X0.here hx rfl (hb hby d1_12) rfl ?_
    show Steps p.tables e below (s₁.setTop (mkF m 13 #[iv xp, iv xl] [(.int (((xp.toUInt32 >>> ((8 : Int32) &&& 31).toUInt32).toInt32) &&& (255 : Int32))), (.int (xp &&& (255 : Int32)))])) _
    refine XS.iloadN X0.here hx rfl (hb hby d1_13) rfl ?_
    refine XS.iconst X0.here hx rfl (hb hby d1_14) ?_
    refine XS.iand X0.here hx rfl (hb hby d1_15) rfl ?_
    exact kt
  by_cases hc934 : (xl &&& (1 : Int32)) = (0 : Int32)
  · have pre935 : ∀ t, Steps p.tables e below (s₁.setTop (mkF m 24 #[iv xp, iv xl] [(.int (0 : Int32)), (.int (((xp.toUInt32 >>> ((8 : Int32) &&& 31).toUInt32).toInt32) &&& (255 : Int32))), (.int (xp &&& (255 : Int32)))])) t → Steps p.tables e below (s₁.setTop (entryFrame m #[(.int xp), (.int xl)] 2)) t := fun t kt => by
      refine pre933 _ ?_
      show Steps p.tables e below (s₁.setTop (mkF m 16 #[iv xp, iv xl] [(.int (xl &&& (1 : Int32))), (.int (((xp.toUInt32 >>> ((8 : Int32) &&& 31).toUInt32).toInt32) &&& (255 : Int32))), (.int (xp &&& (255 : Int32)))])) _
      refine XS.ifYes X0.here hx rfl (pc0 := 16) (pc' := 23) rfl (hb hby d1_16) rfl (XT.i0_eq_t hc934) (by decide) (by decide) ?_
      refine XS.iconst X0.here hx rfl (hb hby d1_23) ?_
      exact kt
    obtain ⟨_, _, ⟨T936, L936, k936, n936⟩, -, X936, ⟨Lc936, hQ936, l936, y936, z936⟩, st936⟩ := Jvm.LawKit.callS X0 hx (y := (⟨"com/example/homethread/homethread/cli/ScenarioReportExitStatusPinLaw", "str", "(IIZ)Ljava/lang/String;"⟩ : MethodName)) hown (mvT hZ (W 4 rfl)) (mvT hZ (W 5 rfl)) (mvT hZ (W 2 rfl)) (mvT hZ (W 6 rfl)) (by decide) (backOf (W := 0) (rm_str1 l Z a0 hw [] ((xp &&& (255 : Int32))) ((((xp.toUInt32 >>> ((8 : Int32) &&& 31).toUInt32).toInt32) &&& (255 : Int32))) cz h0 n0 O0 G0 qz (own_u8_mask _)) hZ (W 6 rfl) (W 2 rfl) (by decide) (by decide)) (g := (mkF m 24 #[iv xp, iv xl] [(.int (0 : Int32)), (.int (((xp.toUInt32 >>> ((8 : Int32) &&& 31).toUInt32).toInt32) &&& (255 : Int32))), (.int (xp &&& (255 : Int32)))])) rfl (by rw [hml]; rfl) (argsL := [(.int (xp &&& (255 : Int32))), (.int (((xp.toUInt32 >>> ((8 : Int32) &&& 31).toUInt32).toInt32) &&& (255 : Int32))), (.int (0 : Int32))]) (rest := []) (lenOf pd_19 rfl) rfl (by show 2 * 0 + _ ≤ _; exact Nat.le_of_eq rfl) (hb hby d1_24) (fun _ _ => ⟨rfl, e0, (by decide : 0 + 3 ≤ _), (by decide : 0 + 6 ≤ _)⟩)
    dsimp only [Pt.U, Pt.locs, Pt.cells, Pt.slots] at X936 l936 y936 z936 st936 hQ936
    subst l936 y936 z936
    obtain ⟨r_936, rfl, M936, Kc936, O936, J936_0, P936_0⟩ := hQ936
    obtain ⟨h936, e936⟩ : ∃ z, T936.heap = z := ⟨_, rfl⟩
    rw [e936] at Kc936 O936 J936_0
    try rw [e936] at P936_0
    have N936 := Fr.app N0 M936
    have K936 : Keep h0 h936 [] := K0.trans Kc936 (own_all0 )
    have pre937 : ∀ t, Steps p.tables e below (T936.setTop (mkF m 27 #[iv xp, iv xl] [(.ref r_936)])) t → Steps p.tables e below (s₁.setTop (entryFrame m #[(.int xp), (.int xl)] 2)) t := fun t kt => pre935 _ (st936 _ kt)
    have sz_r_936 : h0.size ≤ r_936 := Nat.le_trans K0.1 P936_0
    have g_r_936 : n0 ≤ r_936 := Nat.le_trans (Nat.le_trans (Nat.le_of_eq O0.1.symm) O0.2.1) sz_r_936
    have F938 : own_str Z h936 r_936 (xl &&& (1 : Int32)) (own_b (xp &&& (255 : Int32))) (own_b (((xp.toUInt32 >>> ((8 : Int32) &&& 31).toUInt32).toInt32) &&& (255 : Int32))) := own_str_b J936_0 ⟨fun _ => hc934, fun _ => rfl⟩
    obtain ⟨fs, hr, hrun, hended, hW, hsame⟩ := X936.leave (v := some (.ref r_936)) (fun h => by rw [Bd.returns] at h; cases h)
    refine ⟨_, _, pre937 _ (X936.areturnOut hx rfl Bd.returns rfl (hb hby d1_27) hr), hrun, hended, _, _, rfl, ?_, ⟨_, rfl⟩, hW, hsame.mono (by decide) (by decide)⟩
    show Q_exp Z xp xl cz h0 n0 _ T936.heap _
    rw [e936]
    exact ⟨r_936, rfl, N936, K936, O936, F938, sz_r_936⟩
  · have pre939 : ∀ t, Steps p.tables e below (s₁.setTop (mkF m 24 #[iv xp, iv xl] [(.int (1 : Int32)), (.int (((xp.toUInt32 >>> ((8 : Int32) &&& 31).toUInt32).toInt32) &&& (255 : Int32))), (.int (xp &&& (255 : Int32)))])) t → Steps p.tables e below (s₁.setTop (entryFrame m #[(.int xp), (.int xl)] 2)) t := fun t kt => by
      refine pre933 _ ?_
      show Steps p.tables e below (s₁.setTop (mkF m 16 #[iv xp, iv xl] [(.int (xl &&& (1 : Int32))), (.int (((xp.toUInt32 >>> ((8 : Int32) &&& 31).toUInt32).toInt32) &&& (255 : Int32))), (.int (xp &&& (255 : Int32)))])) _
      refine XS.ifNo X0.here hx rfl (hb hby d1_16) rfl (XT.i0_eq_f hc934) ?_
      refine XS.iconst X0.here hx rfl (hb hby d1_19) ?_
      refine XS.goto X0.here hx rfl (pc0 := 20) (pc' := 24) rfl (hb hby d1_20) (by decide) (by decide) ?_
      exact kt
    obtain ⟨_, _, ⟨T940, L940, k940, n940⟩, -, X940, ⟨Lc940, hQ940, l940, y940, z940⟩, st940⟩ := Jvm.LawKit.callS X0 hx (y := (⟨"com/example/homethread/homethread/cli/ScenarioReportExitStatusPinLaw", "str", "(IIZ)Ljava/lang/String;"⟩ : MethodName)) hown (mvT hZ (W 4 rfl)) (mvT hZ (W 5 rfl)) (mvT hZ (W 2 rfl)) (mvT hZ (W 6 rfl)) (by decide) (backOf (W := 0) (rm_str2 l Z a0 hw [] ((xp &&& (255 : Int32))) ((((xp.toUInt32 >>> ((8 : Int32) &&& 31).toUInt32).toInt32) &&& (255 : Int32))) cz h0 n0 O0 G0 qz (own_u8_mask _) (own_u8_mask _)) hZ (W 6 rfl) (W 2 rfl) (by decide) (by decide)) (g := (mkF m 24 #[iv xp, iv xl] [(.int (1 : Int32)), (.int (((xp.toUInt32 >>> ((8 : Int32) &&& 31).toUInt32).toInt32) &&& (255 : Int32))), (.int (xp &&& (255 : Int32)))])) rfl (by rw [hml]; rfl) (argsL := [(.int (xp &&& (255 : Int32))), (.int (((xp.toUInt32 >>> ((8 : Int32) &&& 31).toUInt32).toInt32) &&& (255 : Int32))), (.int (1 : Int32))]) (rest := []) (lenOf pd_19 rfl) rfl (by show 2 * 0 + _ ≤ _; exact Nat.le_of_eq rfl) (hb hby d1_24) (fun _ _ => ⟨rfl, e0, (by decide : 0 + 3 ≤ _), (by decide : 0 + 8 ≤ _)⟩)
    dsimp only [Pt.U, Pt.locs, Pt.cells, Pt.slots] at X940 l940 y940 z940 st940 hQ940
    subst l940 y940 z940
    obtain ⟨r_940, rfl, M940, Kc940, O940, J940_0, P940_0⟩ := hQ940
    obtain ⟨h940, e940⟩ : ∃ z, T940.heap = z := ⟨_, rfl⟩
    rw [e940] at Kc940 O940 J940_0
    try rw [e940] at P940_0
    have N940 := Fr.app N0 M940
    have K940 : Keep h0 h940 [] := K0.trans Kc940 (own_all0 )
    have pre941 : ∀ t, Steps p.tables e below (T940.setTop (mkF m 27 #[iv xp, iv xl] [(.ref r_940)])) t → Steps p.tables e below (s₁.setTop (entryFrame m #[(.int xp), (.int xl)] 2)) t := fun t kt => pre939 _ (st940 _ kt)
    have sz_r_940 : h0.size ≤ r_940 := Nat.le_trans K0.1 P940_0
    have g_r_940 : n0 ≤ r_940 := Nat.le_trans (Nat.le_trans (Nat.le_of_eq O0.1.symm) O0.2.1) sz_r_940
    have F942 : own_str Z h940 r_940 (xl &&& (1 : Int32)) (own_b (xp &&& (255 : Int32))) (own_b (((xp.toUInt32 >>> ((8 : Int32) &&& 31).toUInt32).toInt32) &&& (255 : Int32))) := own_str_b J940_0 ⟨fun z => absurd z (by decide), fun z => absurd z hc934⟩
    obtain ⟨fs, hr, hrun, hended, hW, hsame⟩ := X940.leave (v := some (.ref r_940)) (fun h => by rw [Bd.returns] at h; cases h)
    refine ⟨_, _, pre941 _ (X940.areturnOut hx rfl Bd.returns rfl (hb hby d1_27) hr), hrun, hended, _, _, rfl, ?_, ⟨_, rfl⟩, hW, hsame.mono (by decide) (by decide)⟩
    show Q_exp Z xp xl cz h0 n0 _ T940.heap _
    rw [e940]
    exact ⟨r_940, rfl, N940, K940, O940, F942, sz_r_940⟩
theorem ef_20 (m : MethodId) (x0 : Int32) (x1 : Int32) : entryFrame m #[(.int x0), (.int x1)] 2 = mkF m 0 #[.val (.int x0), .val (.int x1)] [] := by first | (simp [entryFrame, mkF, argsToLocals, Value.category]; done) | rfl
theorem d9_0 : decode method_6_code 0 = .ok (.iload_n 0, 1) := by decide +kernel
theorem d9_1 : decode method_6_code 1 = .ok (.sipush 255, 3) := by decide +kernel
theorem d9_4 : decode method_6_code 4 = .ok (.iand, 1) := by decide +kernel
theorem d9_5 : decode method_6_code 5 = .ok (.iload_n 0, 1) := by decide +kernel
theorem d9_6 : decode method_6_code 6 = .ok (.invokestatic 18, 3) := by decide +kernel
theorem d9_9 : decode method_6_code 9 = .ok (.ixor, 1) := by decide +kernel
theorem d9_10 : decode method_6_code 10 = .ok (.iload_n 0, 1) := by decide +kernel
theorem d9_11 : decode method_6_code 11 = .ok (.bipush 8, 2) := by decide +kernel
theorem d9_13 : decode method_6_code 13 = .ok (.iushr, 1) := by decide +kernel
theorem d9_14 : decode method_6_code 14 = .ok (.sipush 255, 3) := by decide +kernel
theorem d9_17 : decode method_6_code 17 = .ok (.iand, 1) := by decide +kernel
theorem d9_18 : decode method_6_code 18 = .ok (.iload_n 0, 1) := by decide +kernel
theorem d9_19 : decode method_6_code 19 = .ok (.invokestatic 22, 3) := by decide +kernel
theorem d9_22 : decode method_6_code 22 = .ok (.ixor, 1) := by decide +kernel
theorem d9_23 : decode method_6_code 23 = .ok (.iload_n 1, 1) := by decide +kernel
theorem d9_24 : decode method_6_code 24 = .ok (.iconst 2, 1) := by decide +kernel
theorem d9_25 : decode method_6_code 25 = .ok (.iand, 1) := by decide +kernel
theorem d9_26 : decode method_6_code 26 = .ok (.ifCond .eq 7, 3) := by decide +kernel
theorem d9_33 : decode method_6_code 33 = .ok (.iconst 0, 1) := by decide +kernel
theorem d9_34 : decode method_6_code 34 = .ok (.invokestatic 12, 3) := by decide +kernel
theorem d9_37 : decode method_6_code 37 = .ok (.areturn, 1) := by decide +kernel
theorem d9_29 : decode method_6_code 29 = .ok (.iconst 1, 1) := by decide +kernel
theorem d9_30 : decode method_6_code 30 = .ok (.goto 4, 3) := by decide +kernel
def Q_obs (Z : State) (xp : Int32) (xl : Int32) (cz : Int32) (h0 : Heap) (n0 : Nat) (v : Option Value) (h : Heap) (L : List Loc) : Prop := ∃ (r : Addr), v = some (.ref r) ∧ Fr n0 L ∧ Keep h0 h [] ∧ Old Z n0 h ∧ own_str Z h r (xl &&& (2 : Int32)) (own_b ((xp &&& (255 : Int32)) ^^^ (own_x0 xp))) (own_b ((((xp.toUInt32 >>> ((8 : Int32) &&& 31).toUInt32).toInt32) &&& (255 : Int32)) ^^^ (own_x1 xp))) ∧ (h0.size ≤ r)
set_option maxRecDepth 65536 in
set_option maxHeartbeats 40000000 in
theorem rm_obs (l : Launch) (Z : State) (a0 : Array Value) (hw : ∀ d ∈ tables_1, d.before a0 Z = true) (ws : List Jvm.Cond) (xp : Int32) (xl : Int32) (cz : Int32) (h0 : Heap) (n0 : Nat) (O0 : Old Z n0 h0) (G0 : Sta Z Z.heap "java/lang/String" "COMPACT_STRINGS" "Z" (.int cz)) (qz : ¬ (cz = (0 : Int32))) :
    MetFree l (⟨"com/example/homethread/homethread/cli/ScenarioReportExitStatusPinLaw", "obs", "(II)Ljava/lang/String;"⟩ : MethodName) (head1 (Jvm.Cond.code (⟨"com/example/homethread/homethread/cli/ScenarioReportExitStatusPinLaw", "obs", "(II)Ljava/lang/String;"⟩ : MethodName) method_6_code 2 (some (.object "java/lang/String")) :: ws) ({ frames := 5, cells := 3, slots := 8, locals := 80 } : Room)) (fun a U => a = #[(.int xp), (.int xl)] ∧ Z.Warmed39 U.vm ∧ U.heap = h0) (fun _ _ _ _ _ => True) (fun _ U o U' => ∃ v L, o = .returned v ∧ Q_obs Z xp xl cz h0 n0 v U'.heap L ∧ FrameEnd U o U' L ({ frames := 5, cells := 3, slots := 8, locals := 80 } : Room).cells ({ frames := 5, cells := 3, slots := 8, locals := 80 } : Room).slots) := by
  refine MetFree.of_bodySF (plainFor_of_name pn_0) hisR ?_
  intro p e s m args below meth c s₁ Bd hml0 hP hK
  have W := fun {d : Jvm.Cond} (i : Nat) (q : tables_1[i]? = some d) => hw d (List.mem_of_getElem? q)
  obtain ⟨rfl, hZ, hh⟩ := hP
  have hx := Bd.exec
  have hby := Bd.bytes
  have hml : c.maxLocals = 2 := hml0
  have hown : s.vm.findClass "com/example/homethread/homethread/cli/ScenarioReportExitStatusPinLaw" = some m.cls := findClass_of_methodNamed Bd.named
  have hnm := (name_of_methodNamed Bd.named Bd.method).1
  have X0 : Stand p l e ({ frames := 5, cells := 3, slots := 8, locals := 80 } : Room) s m #[(.int xp), (.int xl)] below meth c s₁ [] 0 0 := Stand.of_body Bd
  have e0 : s₁.heap = h0 := by rw [← hh, Bd.state]; rfl
  have N0 := Fr.nil n0
  have pre0 : ∀ t, Steps p.tables e below (s₁.setTop (mkF m 0 #[iv xp, iv xl] [])) t → Steps p.tables e below (s₁.setTop (entryFrame m #[(.int xp), (.int xl)] 2)) t := fun t k => castTop (ef_20 m xp xl) k
  have K0 : Keep h0 h0 [] := Keep.refl h0 []
  have pre943 : ∀ t, Steps p.tables e below (s₁.setTop (mkF m 6 #[iv xp, iv xl] [(.int xp), (.int (xp &&& (255 : Int32)))])) t → Steps p.tables e below (s₁.setTop (entryFrame m #[(.int xp), (.int xl)] 2)) t := fun t kt => by
    refine pre0 _ ?_
    show Steps p.tables e below (s₁.setTop (mkF m 0 #[iv xp, iv xl] [])) _
    refine XS.iloadN X0.here hx rfl (hb hby d9_0) rfl ?_
    refine XS.sipush X0.here hx rfl (hb hby d9_1) ?_
    refine XS.iand X0.here hx rfl (hb hby d9_4) rfl ?_
    refine XS.iloadN X0.here hx rfl (hb hby d9_5) rfl ?_
    exact kt
  obtain ⟨_, _, ⟨T944, L944, k944, n944⟩, -, X944, ⟨Lc944, hQ944, l944, y944, z944⟩, st944⟩ := Jvm.LawKit.callS X0 hx (y := (⟨"com/example/homethread/homethread/cli/ScenarioReportExitStatusPinLaw", "x0", "(I)I"⟩ : MethodName)) hown (mvT hZ (W 40 rfl)) (mvT hZ (W 41 rfl)) (mvT hZ (W 2 rfl)) (mvT hZ (W 42 rfl)) (by decide) (backOf (W := 1) (rm_x0 l Z a0 hw [] xp h0 n0 O0) hZ (W 42 rfl) (W 2 rfl) (by decide) (by decide)) (g := (mkF m 6 #[iv xp, iv xl] [(.int xp), (.int (xp &&& (255 : Int32)))])) rfl (by rw [hml]; rfl) (argsL := [(.int xp)]) (rest := [(.int (xp &&& (255 : Int32)))]) (lenOf pd_4 rfl) rfl (by show 2 * 0 + _ ≤ _; exact Nat.le_of_eq rfl) (hb hby d9_6) (fun _ _ => ⟨rfl, e0, (by decide : 0 + 0 ≤ _), (by decide : 0 + 0 ≤ _)⟩)
  dsimp only [Pt.U, Pt.locs, Pt.cells, Pt.slots] at X944 l944 y944 z944 st944 hQ944
  subst l944 y944 z944
  obtain ⟨rfl, M944, e944⟩ := hQ944
  have N944 := Fr.app N0 M944
  have pre945 : ∀ t, Steps p.tables e below (T944.setTop (mkF m 9 #[iv xp, iv xl] [(.int (own_x0 xp)), (.int (xp &&& (255 : Int32)))])) t → Steps p.tables e below (s₁.setTop (entryFrame m #[(.int xp), (.int xl)] 2)) t := fun t kt => pre943 _ (st944 _ kt)
  have pre946 : ∀ t, Steps p.tables e below (T944.setTop (mkF m 19 #[iv xp, iv xl] [(.int xp), (.int (((xp.toUInt32 >>> ((8 : Int32) &&& 31).toUInt32).toInt32) &&& (255 : Int32))), (.int ((xp &&& (255 : Int32)) ^^^ (own_x0 xp)))])) t → Steps p.tables e below (s₁.setTop (entryFrame m #[(.int xp), (.int xl)] 2)) t := fun t kt => by
    refine pre945 _ ?_
    show Steps p.tables e below (T944.setTop (mkF m 9 #[iv xp, iv xl] [(.int (own_x0 xp)), (.int (xp &&& (255 : Int32)))])) _
    refine XS.ixor X944.here hx rfl (hb hby d9_9) rfl ?_
    refine XS.iloadN X944.here hx rfl (hb hby d9_10) rfl ?_
    refine XS.bipush X944.here hx rfl (hb hby d9_11) ?_
    refine XS.iushr X944.here hx rfl (hb hby d9_13) rfl ?_
    refine XS.sipush X944.here hx rfl (hb hby d9_14) ?_
    refine XS.iand X944.here hx rfl (hb hby d9_17) rfl ?_
    refine XS.iloadN X944.here hx rfl (hb hby d9_18) rfl ?_
    exact kt
  obtain ⟨_, _, ⟨T947, L947, k947, n947⟩, -, X947, ⟨Lc947, hQ947, l947, y947, z947⟩, st947⟩ := Jvm.LawKit.callS X944 hx (y := (⟨"com/example/homethread/homethread/cli/ScenarioReportExitStatusPinLaw", "x1", "(I)I"⟩ : MethodName)) hown (mvT hZ (W 43 rfl)) (mvT hZ (W 44 rfl)) (mvT hZ (W 2 rfl)) (mvT hZ (W 45 rfl)) (by decide) (backOf (W := 2) (rm_x1 l Z a0 hw [] xp h0 n0 O0) hZ (W 45 rfl) (W 2 rfl) (by decide) (by decide)) (g := (mkF m 19 #[iv xp, iv xl] [(.int xp), (.int (((xp.toUInt32 >>> ((8 : Int32) &&& 31).toUInt32).toInt32) &&& (255 : Int32))), (.int ((xp &&& (255 : Int32)) ^^^ (own_x0 xp)))])) rfl (by rw [hml]; rfl) (argsL := [(.int xp)]) (rest := [(.int (((xp.toUInt32 >>> ((8 : Int32) &&& 31).toUInt32).toInt32) &&& (255 : Int32))), (.int ((xp &&& (255 : Int32)) ^^^ (own_x0 xp)))]) (lenOf pd_4 rfl) rfl (by show 2 * 0 + _ ≤ _; exact Nat.le_of_eq rfl) (hb hby d9_19) (fun _ _ => ⟨rfl, e944, (by decide : 0 + 0 ≤ _), (by decide : 0 + 0 ≤ _)⟩)
  dsimp only [Pt.U, Pt.locs, Pt.cells, Pt.slots] at X947 l947 y947 z947 st947 hQ947
  subst l947 y947 z947
  obtain ⟨rfl, M947, e947⟩ := hQ947
  have N947 := Fr.app N944 M947
  have pre948 : ∀ t, Steps p.tables e below (T947.setTop (mkF m 22 #[iv xp, iv xl] [(.int (own_x1 xp)), (.int (((xp.toUInt32 >>> ((8 : Int32) &&& 31).toUInt32).toInt32) &&& (255 : Int32))), (.int ((xp &&& (255 : Int32)) ^^^ (own_x0 xp)))])) t → Steps p.tables e below (s₁.setTop (entryFrame m #[(.int xp), (.int xl)] 2)) t := fun t kt => pre946 _ (st947 _ kt)
  have pre949 : ∀ t, Steps p.tables e below (T947.setTop (mkF m 26 #[iv xp, iv xl] [(.int (xl &&& (2 : Int32))), (.int ((((xp.toUInt32 >>> ((8 : Int32) &&& 31).toUInt32).toInt32) &&& (255 : Int32)) ^^^ (own_x1 xp))), (.int ((xp &&& (255 : Int32)) ^^^ (own_x0 xp)))])) t → Steps p.tables e below (s₁.setTop (entryFrame m #[(.int xp), (.int xl)] 2)) t := fun t kt => by
    refine pre948 _ ?_
    show Steps p.tables e below (T947.setTop (mkF m 22 #[iv xp, iv xl] [(.int (own_x1 xp)), (.int (((xp.toUInt32 >>> ((8 : Int32) &&& 31).toUInt32).toInt32) &&& (255 : Int32))), (.int ((xp &&& (255 : Int32)) ^^^ (own_x0 xp)))])) _
    refine XS.ixor X947.here hx rfl (hb hby d9_22) rfl ?_
    refine XS.iloadN X947.here hx rfl (hb hby d9_23) rfl ?_
    refine XS.iconst X947.here hx rfl (hb hby d9_24) ?_
    refine XS.iand X947.here hx rfl (hb hby d9_25) rfl ?_
    exact kt
  by_cases hc950 : (xl &&& (2 : Int32)) = (0 : Int32)
  · have pre951 : ∀ t, Steps p.tables e below (T947.setTop (mkF m 34 #[iv xp, iv xl] [(.int (0 : Int32)), (.int ((((xp.toUInt32 >>> ((8 : Int32) &&& 31).toUInt32).toInt32) &&& (255 : Int32)) ^^^ (own_x1 xp))), (.int ((xp &&& (255 : Int32)) ^^^ (own_x0 xp)))])) t → Steps p.tables e below (s₁.setTop (entryFrame m #[(.int xp), (.int xl)] 2)) t := fun t kt => by
      refine pre949 _ ?_
      show Steps p.tables e below (T947.setTop (mkF m 26 #[iv xp, iv xl] [(.int (xl &&& (2 : Int32))), (.int ((((xp.toUInt32 >>> ((8 : Int32) &&& 31).toUInt32).toInt32) &&& (255 : Int32)) ^^^ (own_x1 xp))), (.int ((xp &&& (255 : Int32)) ^^^ (own_x0 xp)))])) _
      refine XS.ifYes X947.here hx rfl (pc0 := 26) (pc' := 33) rfl (hb hby d9_26) rfl (XT.i0_eq_t hc950) (by decide) (by decide) ?_
      refine XS.iconst X947.here hx rfl (hb hby d9_33) ?_
      exact kt
    obtain ⟨_, _, ⟨T952, L952, k952, n952⟩, -, X952, ⟨Lc952, hQ952, l952, y952, z952⟩, st952⟩ := Jvm.LawKit.callS X947 hx (y := (⟨"com/example/homethread/homethread/cli/ScenarioReportExitStatusPinLaw", "str", "(IIZ)Ljava/lang/String;"⟩ : MethodName)) hown (mvT hZ (W 4 rfl)) (mvT hZ (W 5 rfl)) (mvT hZ (W 2 rfl)) (mvT hZ (W 6 rfl)) (by decide) (backOf (W := 0) (rm_str1 l Z a0 hw [] (((xp &&& (255 : Int32)) ^^^ (own_x0 xp))) (((((xp.toUInt32 >>> ((8 : Int32) &&& 31).toUInt32).toInt32) &&& (255 : Int32)) ^^^ (own_x1 xp))) cz h0 n0 O0 G0 qz (own_u8_o0 xp)) hZ (W 6 rfl) (W 2 rfl) (by decide) (by decide)) (g := (mkF m 34 #[iv xp, iv xl] [(.int (0 : Int32)), (.int ((((xp.toUInt32 >>> ((8 : Int32) &&& 31).toUInt32).toInt32) &&& (255 : Int32)) ^^^ (own_x1 xp))), (.int ((xp &&& (255 : Int32)) ^^^ (own_x0 xp)))])) rfl (by rw [hml]; rfl) (argsL := [(.int ((xp &&& (255 : Int32)) ^^^ (own_x0 xp))), (.int ((((xp.toUInt32 >>> ((8 : Int32) &&& 31).toUInt32).toInt32) &&& (255 : Int32)) ^^^ (own_x1 xp))), (.int (0 : Int32))]) (rest := []) (lenOf pd_19 rfl) rfl (by show 2 * 0 + _ ≤ _; exact Nat.le_of_eq rfl) (hb hby d9_34) (fun _ _ => ⟨rfl, e947, (by decide : 0 + 3 ≤ _), (by decide : 0 + 6 ≤ _)⟩)
    dsimp only [Pt.U, Pt.locs, Pt.cells, Pt.slots] at X952 l952 y952 z952 st952 hQ952
    subst l952 y952 z952
    obtain ⟨r_952, rfl, M952, Kc952, O952, J952_0, P952_0⟩ := hQ952
    obtain ⟨h952, e952⟩ : ∃ z, T952.heap = z := ⟨_, rfl⟩
    rw [e952] at Kc952 O952 J952_0
    try rw [e952] at P952_0
    have N952 := Fr.app N947 M952
    have K952 : Keep h0 h952 [] := K0.trans Kc952 (own_all0 )
    have pre953 : ∀ t, Steps p.tables e below (T952.setTop (mkF m 37 #[iv xp, iv xl] [(.ref r_952)])) t → Steps p.tables e below (s₁.setTop (entryFrame m #[(.int xp), (.int xl)] 2)) t := fun t kt => pre951 _ (st952 _ kt)
    have sz_r_952 : h0.size ≤ r_952 := Nat.le_trans K0.1 P952_0
    have g_r_952 : n0 ≤ r_952 := Nat.le_trans (Nat.le_trans (Nat.le_of_eq O0.1.symm) O0.2.1) sz_r_952
    have F954 : own_str Z h952 r_952 (xl &&& (2 : Int32)) (own_b ((xp &&& (255 : Int32)) ^^^ (own_x0 xp))) (own_b ((((xp.toUInt32 >>> ((8 : Int32) &&& 31).toUInt32).toInt32) &&& (255 : Int32)) ^^^ (own_x1 xp))) := own_str_b J952_0 ⟨fun _ => hc950, fun _ => rfl⟩
    obtain ⟨fs, hr, hrun, hended, hW, hsame⟩ := X952.leave (v := some (.ref r_952)) (fun h => by rw [Bd.returns] at h; cases h)
    refine ⟨_, _, pre953 _ (X952.areturnOut hx rfl Bd.returns rfl (hb hby d9_37) hr), hrun, hended, _, _, rfl, ?_, ⟨_, rfl⟩, hW, hsame.mono (by decide) (by decide)⟩
    show Q_obs Z xp xl cz h0 n0 _ T952.heap _
    rw [e952]
    exact ⟨r_952, rfl, N952, K952, O952, F954, sz_r_952⟩
  · have pre955 : ∀ t, Steps p.tables e below (T947.setTop (mkF m 34 #[iv xp, iv xl] [(.int (1 : Int32)), (.int ((((xp.toUInt32 >>> ((8 : Int32) &&& 31).toUInt32).toInt32) &&& (255 : Int32)) ^^^ (own_x1 xp))), (.int ((xp &&& (255 : Int32)) ^^^ (own_x0 xp)))])) t → Steps p.tables e below (s₁.setTop (entryFrame m #[(.int xp), (.int xl)] 2)) t := fun t kt => by
      refine pre949 _ ?_
      show Steps p.tables e below (T947.setTop (mkF m 26 #[iv xp, iv xl] [(.int (xl &&& (2 : Int32))), (.int ((((xp.toUInt32 >>> ((8 : Int32) &&& 31).toUInt32).toInt32) &&& (255 : Int32)) ^^^ (own_x1 xp))), (.int ((xp &&& (255 : Int32)) ^^^ (own_x0 xp)))])) _
      refine XS.ifNo X947.here hx rfl (hb hby d9_26) rfl (XT.i0_eq_f hc950) ?_
      refine XS.iconst X947.here hx rfl (hb hby d9_29) ?_
      refine XS.goto X947.here hx rfl (pc0 := 30) (pc' := 34) rfl (hb hby d9_30) (by decide) (by decide) ?_
      exact kt
    obtain ⟨_, _, ⟨T956, L956, k956, n956⟩, -, X956, ⟨Lc956, hQ956, l956, y956, z956⟩, st956⟩ := Jvm.LawKit.callS X947 hx (y := (⟨"com/example/homethread/homethread/cli/ScenarioReportExitStatusPinLaw", "str", "(IIZ)Ljava/lang/String;"⟩ : MethodName)) hown (mvT hZ (W 4 rfl)) (mvT hZ (W 5 rfl)) (mvT hZ (W 2 rfl)) (mvT hZ (W 6 rfl)) (by decide) (backOf (W := 0) (rm_str2 l Z a0 hw [] (((xp &&& (255 : Int32)) ^^^ (own_x0 xp))) (((((xp.toUInt32 >>> ((8 : Int32) &&& 31).toUInt32).toInt32) &&& (255 : Int32)) ^^^ (own_x1 xp))) cz h0 n0 O0 G0 qz (own_u8_o0 xp) (own_u8_o1 xp)) hZ (W 6 rfl) (W 2 rfl) (by decide) (by decide)) (g := (mkF m 34 #[iv xp, iv xl] [(.int (1 : Int32)), (.int ((((xp.toUInt32 >>> ((8 : Int32) &&& 31).toUInt32).toInt32) &&& (255 : Int32)) ^^^ (own_x1 xp))), (.int ((xp &&& (255 : Int32)) ^^^ (own_x0 xp)))])) rfl (by rw [hml]; rfl) (argsL := [(.int ((xp &&& (255 : Int32)) ^^^ (own_x0 xp))), (.int ((((xp.toUInt32 >>> ((8 : Int32) &&& 31).toUInt32).toInt32) &&& (255 : Int32)) ^^^ (own_x1 xp))), (.int (1 : Int32))]) (rest := []) (lenOf pd_19 rfl) rfl (by show 2 * 0 + _ ≤ _; exact Nat.le_of_eq rfl) (hb hby d9_34) (fun _ _ => ⟨rfl, e947, (by decide : 0 + 3 ≤ _), (by decide : 0 + 8 ≤ _)⟩)
    dsimp only [Pt.U, Pt.locs, Pt.cells, Pt.slots] at X956 l956 y956 z956 st956 hQ956
    subst l956 y956 z956
    obtain ⟨r_956, rfl, M956, Kc956, O956, J956_0, P956_0⟩ := hQ956
    obtain ⟨h956, e956⟩ : ∃ z, T956.heap = z := ⟨_, rfl⟩
    rw [e956] at Kc956 O956 J956_0
    try rw [e956] at P956_0
    have N956 := Fr.app N947 M956
    have K956 : Keep h0 h956 [] := K0.trans Kc956 (own_all0 )
    have pre957 : ∀ t, Steps p.tables e below (T956.setTop (mkF m 37 #[iv xp, iv xl] [(.ref r_956)])) t → Steps p.tables e below (s₁.setTop (entryFrame m #[(.int xp), (.int xl)] 2)) t := fun t kt => pre955 _ (st956 _ kt)
    have sz_r_956 : h0.size ≤ r_956 := Nat.le_trans K0.1 P956_0
    have g_r_956 : n0 ≤ r_956 := Nat.le_trans (Nat.le_trans (Nat.le_of_eq O0.1.symm) O0.2.1) sz_r_956
    have F958 : own_str Z h956 r_956 (xl &&& (2 : Int32)) (own_b ((xp &&& (255 : Int32)) ^^^ (own_x0 xp))) (own_b ((((xp.toUInt32 >>> ((8 : Int32) &&& 31).toUInt32).toInt32) &&& (255 : Int32)) ^^^ (own_x1 xp))) := own_str_b J956_0 ⟨fun z => absurd z (by decide), fun z => absurd z hc950⟩
    obtain ⟨fs, hr, hrun, hended, hW, hsame⟩ := X956.leave (v := some (.ref r_956)) (fun h => by rw [Bd.returns] at h; cases h)
    refine ⟨_, _, pre957 _ (X956.areturnOut hx rfl Bd.returns rfl (hb hby d9_37) hr), hrun, hended, _, _, rfl, ?_, ⟨_, rfl⟩, hW, hsame.mono (by decide) (by decide)⟩
    show Q_obs Z xp xl cz h0 n0 _ T956.heap _
    rw [e956]
    exact ⟨r_956, rfl, N956, K956, O956, F958, sz_r_956⟩
theorem ef_21 (m : MethodId) (x0 : Addr) (x1 : Addr) : entryFrame m #[(.ref x0), (.ref x1)] 3 = mkF m 0 #[.val (.ref x0), .val (.ref x1), .unset] [] := by first | (simp [entryFrame, mkF, argsToLocals, Value.category]; done) | rfl
theorem d24_0 : decode jdk_42_method_66_code 0 = .ok (.aload_n 0, 1) := by decide +kernel
theorem d24_1 : decode jdk_42_method_66_code 1 = .ok (.aload_n 1, 1) := by decide +kernel
theorem d24_2 : decode jdk_42_method_66_code 2 = .ok (.if_acmp .ne 5, 3) := by decide +kernel
theorem d24_7 : decode jdk_42_method_66_code 7 = .ok (.aload_n 1, 1) := by decide +kernel
theorem d24_8 : decode jdk_42_method_66_code 8 = .ok (.instanceof 10, 3) := by decide +kernel
theorem d24_11 : decode jdk_42_method_66_code 11 = .ok (.ifCond .eq 43, 3) := by decide +kernel
theorem d24_14 : decode jdk_42_method_66_code 14 = .ok (.aload_n 1, 1) := by decide +kernel
theorem d24_15 : decode jdk_42_method_66_code 15 = .ok (.checkcast 10, 3) := by decide +kernel
theorem d24_18 : decode jdk_42_method_66_code 18 = .ok (.astore_n 2, 1) := by decide +kernel
theorem d24_19 : decode jdk_42_method_66_code 19 = .ok (.getstatic 38, 3) := by decide +kernel
theorem d24_22 : decode jdk_42_method_66_code 22 = .ok (.ifCond .eq 14, 3) := by decide +kernel
theorem d24_25 : decode jdk_42_method_66_code 25 = .ok (.aload_n 0, 1) := by decide +kernel
theorem d24_26 : decode jdk_42_method_66_code 26 = .ok (.getfield 15, 3) := by decide +kernel
theorem d24_29 : decode jdk_42_method_66_code 29 = .ok (.aload_n 2, 1) := by decide +kernel
theorem d24_30 : decode jdk_42_method_66_code 30 = .ok (.getfield 15, 3) := by decide +kernel
theorem d24_33 : decode jdk_42_method_66_code 33 = .ok (.if_icmp .ne 21, 3) := by decide +kernel
theorem d24_36 : decode jdk_42_method_66_code 36 = .ok (.aload_n 0, 1) := by decide +kernel
theorem d24_37 : decode jdk_42_method_66_code 37 = .ok (.getfield 9, 3) := by decide +kernel
theorem d24_40 : decode jdk_42_method_66_code 40 = .ok (.aload_n 2, 1) := by decide +kernel
theorem d24_41 : decode jdk_42_method_66_code 41 = .ok (.getfield 9, 3) := by decide +kernel
theorem d24_44 : decode jdk_42_method_66_code 44 = .ok (.invokestatic 541, 3) := by decide +kernel
theorem d25_0 : decode jdk_43_method_13_code 0 = .ok (.aload_n 0, 1) := by decide +kernel
theorem d25_1 : decode jdk_43_method_13_code 1 = .ok (.arraylength, 1) := by decide +kernel
theorem d25_2 : decode jdk_43_method_13_code 2 = .ok (.aload_n 1, 1) := by decide +kernel
theorem d25_3 : decode jdk_43_method_13_code 3 = .ok (.arraylength, 1) := by decide +kernel
theorem d25_4 : decode jdk_43_method_13_code 4 = .ok (.if_icmp .ne 30, 3) := by decide +kernel
theorem d25_7 : decode jdk_43_method_13_code 7 = .ok (.iconst 0, 1) := by decide +kernel
theorem d25_8 : decode jdk_43_method_13_code 8 = .ok (.istore_n 2, 1) := by decide +kernel
theorem d25_9 : decode jdk_43_method_13_code 9 = .ok (.iload_n 2, 1) := by decide +kernel
theorem d25_10 : decode jdk_43_method_13_code 10 = .ok (.aload_n 0, 1) := by decide +kernel
theorem d25_11 : decode jdk_43_method_13_code 11 = .ok (.arraylength, 1) := by decide +kernel
theorem d25_12 : decode jdk_43_method_13_code 12 = .ok (.if_icmp .ge 20, 3) := by decide +kernel
theorem d25_15 : decode jdk_43_method_13_code 15 = .ok (.aload_n 0, 1) := by decide +kernel
theorem d25_16 : decode jdk_43_method_13_code 16 = .ok (.iload_n 2, 1) := by decide +kernel
theorem d25_17 : decode jdk_43_method_13_code 17 = .ok (.baload, 1) := by decide +kernel
theorem d25_18 : decode jdk_43_method_13_code 18 = .ok (.aload_n 1, 1) := by decide +kernel
theorem d25_19 : decode jdk_43_method_13_code 19 = .ok (.iload_n 2, 1) := by decide +kernel
theorem d25_20 : decode jdk_43_method_13_code 20 = .ok (.baload, 1) := by decide +kernel
theorem d25_21 : decode jdk_43_method_13_code 21 = .ok (.if_icmp .eq 5, 3) := by decide +kernel
theorem d25_26 : decode jdk_43_method_13_code 26 = .ok (.iinc 2 1, 3) := by decide +kernel
theorem d25_29 : decode jdk_43_method_13_code 29 = .ok (.goto (-20), 3) := by decide +kernel
theorem d25_32 : decode jdk_43_method_13_code 32 = .ok (.iconst 1, 1) := by decide +kernel
theorem d25_33 : decode jdk_43_method_13_code 33 = .ok (.ireturn, 1) := by decide +kernel
theorem pn_22 : plainName "java/lang/StringLatin1" = true := by first | (simp [plainName, overriddenIn]; done) | decide +kernel
theorem ef_23 (m : MethodId) (x0 : Addr) (x1 : Addr) : entryFrame m #[(.ref x0), (.ref x1)] 3 = mkF m 0 #[.val (.ref x0), .val (.ref x1), .unset] [] := by first | (simp [entryFrame, mkF, argsToLocals, Value.category]; done) | rfl
def Q_equals25_1 (Z : State) (t960 : Addr) (t962 : Addr) (c0 : Int32) (k960 : ClassId) (d0 : Int32) (k962 : ClassId) (h0 : Heap) (n0 : Nat) (v : Option Value) (h : Heap) (L : List Loc) : Prop := v = some (.int (1 : Int32)) ∧ Fr n0 L ∧ h = h0
set_option maxRecDepth 65536 in
set_option maxHeartbeats 40000000 in
theorem rm_equals25_1 (l : Launch) (Z : State) (a0 : Array Value) (hw : ∀ d ∈ tables_1, d.before a0 Z = true) (ws : List Jvm.Cond) (t960 : Addr) (t962 : Addr) (c0 : Int32) (k960 : ClassId) (d0 : Int32) (k962 : ClassId) (h0 : Heap) (n0 : Nat) (O0 : Old Z n0 h0) (Fi0 : Arv Z h0 t960 k960 .byte (1 : Int32) [(.int c0)] (.int (0 : Int32))) (Fi1 : Arv Z h0 t962 k962 .byte (1 : Int32) [(.int d0)] (.int (0 : Int32))) (q0 : d0 = c0) :
    MetFree l (⟨"java/lang/StringLatin1", "equals", "([B[B)Z"⟩ : MethodName) (head1 (Jvm.Cond.code (⟨"java/lang/StringLatin1", "equals", "([B[B)Z"⟩ : MethodName) jdk_43_method_13_code 3 (some .boolean) :: ws) ({ frames := 0, cells := 0, slots := 0, locals := 0 } : Room)) (fun a U => a = #[(.ref t960), (.ref t962)] ∧ Z.Warmed39 U.vm ∧ U.heap = h0) (fun _ _ _ _ _ => True) (fun _ U o U' => ∃ v L, o = .returned v ∧ Q_equals25_1 Z t960 t962 c0 k960 d0 k962 h0 n0 v U'.heap L ∧ FrameEnd U o U' L ({ frames := 0, cells := 0, slots := 0, locals := 0 } : Room).cells ({ frames := 0, cells := 0, slots := 0, locals := 0 } : Room).slots) := by
  refine MetFree.of_bodySF (plainFor_of_name pn_22) hisR ?_
  intro p e s m args below meth c s₁ Bd hml0 hP hK
  have W := fun {d : Jvm.Cond} (i : Nat) (q : tables_1[i]? = some d) => hw d (List.mem_of_getElem? q)
  obtain ⟨rfl, hZ, hh⟩ := hP
  have hx := Bd.exec
  have hby := Bd.bytes
  have hml : c.maxLocals = 3 := hml0
  have hown : s.vm.findClass "java/lang/StringLatin1" = some m.cls := findClass_of_methodNamed Bd.named
  have hnm := (name_of_methodNamed Bd.named Bd.method).1
  have X0 : Stand p l e ({ frames := 0, cells := 0, slots := 0, locals := 0 } : Room) s m #[(.ref t960), (.ref t962)] below meth c s₁ [] 0 0 := Stand.of_body Bd
  have e0 : s₁.heap = h0 := by rw [← hh, Bd.state]; rfl
  have N0 := Fr.nil n0
  have pre0 : ∀ t, Steps p.tables e below (s₁.setTop (mkF m 0 #[rv t960, rv t962, .unset] [])) t → Steps p.tables e below (s₁.setTop (entryFrame m #[(.ref t960), (.ref t962)] 3)) t := fun t k => castTop (ef_23 m t960 t962) k
  have K0 : Keep h0 h0 [] := Keep.refl h0 []
  have pre1024 : ∀ t, Steps p.tables e below (s₁.setTop (mkF m 1 #[rv t960, rv t962, .unset] [(.ref t960)])) t → Steps p.tables e below (s₁.setTop (entryFrame m #[(.ref t960), (.ref t962)] 3)) t := fun t kt => by
    refine pre0 _ ?_
    show Steps p.tables e below (s₁.setTop (mkF m 0 #[rv t960, rv t962, .unset] [])) _
    refine XS.aloadN X0.here hx rfl (hb hby d25_0) rfl rfl ?_
    exact kt
  obtain ⟨c1023, Ar1023, -, S1023, M1023, -, -⟩ := id Fi0
  have pre1026 : ∀ t, Steps p.tables e below (s₁.setTop (mkF m 3 #[rv t960, rv t962, .unset] [(.ref t962), (.int (1 : Int32))])) t → Steps p.tables e below (s₁.setTop (entryFrame m #[(.ref t960), (.ref t962)] 3)) t := fun t kt => by
    refine pre1024 _ ?_
    show Steps p.tables e below (s₁.setTop (mkF m 1 #[rv t960, rv t962, .unset] [(.ref t960)])) _
    refine X0.arraylength hx (by rw [e0]; exact Ar1023.1) (State.isArrayOf_alike hZ.alike Ar1023.2.1) (g := (mkF m 1 #[rv t960, rv t962, .unset] [(.ref t960)])) rfl rfl (hb hby d25_1) _ ?_
    rw [len_of S1023 M1023]
    refine XS.aloadN X0.here hx rfl (hb hby d25_2) rfl rfl ?_
    exact kt
  obtain ⟨c1025, Ar1025, -, S1025, M1025, -, -⟩ := id Fi1
  have pre1028 : ∀ t, Steps p.tables e below (s₁.setTop (mkF m 11 #[rv t960, rv t962, iv (0 : Int32)] [(.ref t960), (.int (0 : Int32))])) t → Steps p.tables e below (s₁.setTop (entryFrame m #[(.ref t960), (.ref t962)] 3)) t := fun t kt => by
    refine pre1026 _ ?_
    show Steps p.tables e below (s₁.setTop (mkF m 3 #[rv t960, rv t962, .unset] [(.ref t962), (.int (1 : Int32))])) _
    refine X0.arraylength hx (by rw [e0]; exact Ar1025.1) (State.isArrayOf_alike hZ.alike Ar1025.2.1) (g := (mkF m 3 #[rv t960, rv t962, .unset] [(.ref t962), (.int (1 : Int32))])) rfl rfl (hb hby d25_3) _ ?_
    rw [len_of S1025 M1025]
    refine XS.icmpNo X0.here hx rfl (hb hby d25_4) rfl (XT.ii_ne_f (by decide)) ?_
    refine XS.iconst X0.here hx rfl (hb hby d25_7) ?_
    refine XS.istoreN X0.here hx rfl (hb hby d25_8) rfl (l' := #[rv t960, rv t962, iv (0 : Int32)]) rfl ?_
    refine XS.iloadN X0.here hx rfl (hb hby d25_9) rfl ?_
    refine XS.aloadN X0.here hx rfl (hb hby d25_10) rfl rfl ?_
    exact kt
  obtain ⟨c1027, Ar1027, -, S1027, M1027, -, -⟩ := id Fi0
  have pre1030 : ∀ t, Steps p.tables e below (s₁.setTop (mkF m 17 #[rv t960, rv t962, iv (0 : Int32)] [(.int (0 : Int32)), (.ref t960)])) t → Steps p.tables e below (s₁.setTop (entryFrame m #[(.ref t960), (.ref t962)] 3)) t := fun t kt => by
    refine pre1028 _ ?_
    show Steps p.tables e below (s₁.setTop (mkF m 11 #[rv t960, rv t962, iv (0 : Int32)] [(.ref t960), (.int (0 : Int32))])) _
    refine X0.arraylength hx (by rw [e0]; exact Ar1027.1) (State.isArrayOf_alike hZ.alike Ar1027.2.1) (g := (mkF m 11 #[rv t960, rv t962, iv (0 : Int32)] [(.ref t960), (.int (0 : Int32))])) rfl rfl (hb hby d25_11) _ ?_
    rw [len_of S1027 M1027]
    refine XS.icmpNo X0.here hx rfl (hb hby d25_12) rfl (XT.ii_ge_f (by decide)) ?_
    refine XS.aloadN X0.here hx rfl (hb hby d25_15) rfl rfl ?_
    refine XS.iloadN X0.here hx rfl (hb hby d25_16) rfl ?_
    exact kt
  obtain ⟨c1029, Ar1029, q1029, S1029, M1029, H1029, G1029⟩ := id Fi0
  have i1029 : ¬ ((0 : Int32) < 0 ∨ c1029.slots.size ≤ ((0 : Int32)).toNatClampNeg) := inb_of S1029 ⟨by decide, by decide⟩
  have t1029 : c1029.slots[((0 : Int32)).toNatClampNeg]? = some (.int c0) := Has.at H1029 i1029 rfl
  have pre1032 : ∀ t, Steps p.tables e below (s₁.setTop (mkF m 20 #[rv t960, rv t962, iv (0 : Int32)] [(.int (0 : Int32)), (.ref t962), (.int c0)])) t → Steps p.tables e below (s₁.setTop (entryFrame m #[(.ref t960), (.ref t962)] 3)) t := fun t kt => by
    refine pre1030 _ ?_
    show Steps p.tables e below (s₁.setTop (mkF m 17 #[rv t960, rv t962, iv (0 : Int32)] [(.int (0 : Int32)), (.ref t960)])) _
    refine X0.baloadBytes hx (j := (0 : Int32)) (v := (.int c0)) (by rw [e0]; exact Ar1029.1) (State.isArrayOf_alike hZ.alike Ar1029.2.1) Ar1029.2.2 i1029 t1029 (g := (mkF m 17 #[rv t960, rv t962, iv (0 : Int32)] [(.int (0 : Int32)), (.ref t960)])) rfl rfl (hb hby d25_17) _ ?_
    refine XS.aloadN X0.here hx rfl (hb hby d25_18) rfl rfl ?_
    refine XS.iloadN X0.here hx rfl (hb hby d25_19) rfl ?_
    exact kt
  obtain ⟨c1031, Ar1031, q1031, S1031, M1031, H1031, G1031⟩ := id Fi1
  have i1031 : ¬ ((0 : Int32) < 0 ∨ c1031.slots.size ≤ ((0 : Int32)).toNatClampNeg) := inb_of S1031 ⟨by decide, by decide⟩
  have t1031 : c1031.slots[((0 : Int32)).toNatClampNeg]? = some (.int d0) := Has.at H1031 i1031 rfl
  have pre1034 : ∀ t, Steps p.tables e below (s₁.setTop (mkF m 11 #[rv t960, rv t962, iv (1 : Int32)] [(.ref t960), (.int (1 : Int32))])) t → Steps p.tables e below (s₁.setTop (entryFrame m #[(.ref t960), (.ref t962)] 3)) t := fun t kt => by
    refine pre1032 _ ?_
    show Steps p.tables e below (s₁.setTop (mkF m 20 #[rv t960, rv t962, iv (0 : Int32)] [(.int (0 : Int32)), (.ref t962), (.int c0)])) _
    refine X0.baloadBytes hx (j := (0 : Int32)) (v := (.int d0)) (by rw [e0]; exact Ar1031.1) (State.isArrayOf_alike hZ.alike Ar1031.2.1) Ar1031.2.2 i1031 t1031 (g := (mkF m 20 #[rv t960, rv t962, iv (0 : Int32)] [(.int (0 : Int32)), (.ref t962), (.int c0)])) rfl rfl (hb hby d25_20) _ ?_
    refine XS.icmpYes X0.here hx rfl (pc0 := 21) (pc' := 26) rfl (hb hby d25_21) rfl (XT.ii_eq_t q0.symm) (by decide) (by decide) ?_
    refine XS.iinc X0.here hx rfl (hb hby d25_26) rfl (l' := #[rv t960, rv t962, iv ((0 : Int32) + (1 : Int32))]) rfl ?_
    show  Steps p.tables e below (s₁.setTop (mkF m 29 #[rv t960, rv t962, iv ((0 : Int32) + (1 : Int32))] [])) _
    rw [(by decide : (((0 : Int32) + (1 : Int32)) : Int32) = (1 : Int32))]
    refine XS.goto X0.here hx rfl (pc0 := 29) (pc' := 9) rfl (hb hby d25_29) (by decide) (by decide) ?_
    refine XS.iloadN X0.here hx rfl (hb hby d25_9) rfl ?_
    refine XS.aloadN X0.here hx rfl (hb hby d25_10) rfl rfl ?_
    exact kt
  obtain ⟨c1033, Ar1033, -, S1033, M1033, -, -⟩ := id Fi0
  have pre1035 : ∀ t, Steps p.tables e below (s₁.setTop (mkF m 33 #[rv t960, rv t962, iv (1 : Int32)] [(.int (1 : Int32))])) t → Steps p.tables e below (s₁.setTop (entryFrame m #[(.ref t960), (.ref t962)] 3)) t := fun t kt => by
    refine pre1034 _ ?_
    show Steps p.tables e below (s₁.setTop (mkF m 11 #[rv t960, rv t962, iv (1 : Int32)] [(.ref t960), (.int (1 : Int32))])) _
    refine X0.arraylength hx (by rw [e0]; exact Ar1033.1) (State.isArrayOf_alike hZ.alike Ar1033.2.1) (g := (mkF m 11 #[rv t960, rv t962, iv (1 : Int32)] [(.ref t960), (.int (1 : Int32))])) rfl rfl (hb hby d25_11) _ ?_
    rw [len_of S1033 M1033]
    refine XS.icmpYes X0.here hx rfl (pc0 := 12) (pc' := 32) rfl (hb hby d25_12) rfl (XT.ii_ge_t (by decide)) (by decide) (by decide) ?_
    refine XS.iconst X0.here hx rfl (hb hby d25_32) ?_
    exact kt
  obtain ⟨fs, hr, hrun, hended, hW, hsame⟩ := X0.leave (v := some (.int (1 : Int32))) (fun h => by rw [Bd.returns] at h; cases h)
  refine ⟨_, _, pre1035 _ (retN X0 hx (t := .boolean) Bd.returns (by simp) (hb hby d25_33) hr), hrun, hended, _, _, rfl, ?_, ⟨_, rfl⟩, hW, hsame.mono (by decide) (by decide)⟩
  show Q_equals25_1 Z t960 t962 c0 k960 d0 k962 h0 n0 _ s₁.heap _
  rw [e0]
  exact ⟨rfl, N0, rfl⟩
theorem pd_24 : parseMethodDescriptor "([B[B)Z" = some ⟨[(.array .byte), (.array .byte)], some .boolean⟩ := by decide +kernel
theorem d24_47 : decode jdk_42_method_66_code 47 = .ok (.ifCond .eq 7, 3) := by decide +kernel
theorem d24_50 : decode jdk_42_method_66_code 50 = .ok (.iconst 1, 1) := by decide +kernel
theorem d24_51 : decode jdk_42_method_66_code 51 = .ok (.goto 4, 3) := by decide +kernel
theorem d24_55 : decode jdk_42_method_66_code 55 = .ok (.ireturn, 1) := by decide +kernel
theorem d25_24 : decode jdk_43_method_13_code 24 = .ok (.iconst 0, 1) := by decide +kernel
theorem d25_25 : decode jdk_43_method_13_code 25 = .ok (.ireturn, 1) := by decide +kernel
def Q_equals25_2 (Z : State) (t960 : Addr) (t962 : Addr) (c0 : Int32) (k960 : ClassId) (d0 : Int32) (k962 : ClassId) (h0 : Heap) (n0 : Nat) (v : Option Value) (h : Heap) (L : List Loc) : Prop := v = some (.int (0 : Int32)) ∧ Fr n0 L ∧ h = h0
set_option maxRecDepth 65536 in
set_option maxHeartbeats 40000000 in
theorem rm_equals25_2 (l : Launch) (Z : State) (a0 : Array Value) (hw : ∀ d ∈ tables_1, d.before a0 Z = true) (ws : List Jvm.Cond) (t960 : Addr) (t962 : Addr) (c0 : Int32) (k960 : ClassId) (d0 : Int32) (k962 : ClassId) (h0 : Heap) (n0 : Nat) (O0 : Old Z n0 h0) (Fi0 : Arv Z h0 t960 k960 .byte (1 : Int32) [(.int c0)] (.int (0 : Int32))) (Fi1 : Arv Z h0 t962 k962 .byte (1 : Int32) [(.int d0)] (.int (0 : Int32))) (q0 : ¬ (d0 = c0)) :
    MetFree l (⟨"java/lang/StringLatin1", "equals", "([B[B)Z"⟩ : MethodName) (head1 (Jvm.Cond.code (⟨"java/lang/StringLatin1", "equals", "([B[B)Z"⟩ : MethodName) jdk_43_method_13_code 3 (some .boolean) :: ws) ({ frames := 0, cells := 0, slots := 0, locals := 0 } : Room)) (fun a U => a = #[(.ref t960), (.ref t962)] ∧ Z.Warmed39 U.vm ∧ U.heap = h0) (fun _ _ _ _ _ => True) (fun _ U o U' => ∃ v L, o = .returned v ∧ Q_equals25_2 Z t960 t962 c0 k960 d0 k962 h0 n0 v U'.heap L ∧ FrameEnd U o U' L ({ frames := 0, cells := 0, slots := 0, locals := 0 } : Room).cells ({ frames := 0, cells := 0, slots := 0, locals := 0 } : Room).slots) := by
  refine MetFree.of_bodySF (plainFor_of_name pn_22) hisR ?_
  intro p e s m args below meth c s₁ Bd hml0 hP hK
  have W := fun {d : Jvm.Cond} (i : Nat) (q : tables_1[i]? = some d) => hw d (List.mem_of_getElem? q)
  obtain ⟨rfl, hZ, hh⟩ := hP
  have hx := Bd.exec
  have hby := Bd.bytes
  have hml : c.maxLocals = 3 := hml0
  have hown : s.vm.findClass "java/lang/StringLatin1" = some m.cls := findClass_of_methodNamed Bd.named
  have hnm := (name_of_methodNamed Bd.named Bd.method).1
  have X0 : Stand p l e ({ frames := 0, cells := 0, slots := 0, locals := 0 } : Room) s m #[(.ref t960), (.ref t962)] below meth c s₁ [] 0 0 := Stand.of_body Bd
  have e0 : s₁.heap = h0 := by rw [← hh, Bd.state]; rfl
  have N0 := Fr.nil n0
  have pre0 : ∀ t, Steps p.tables e below (s₁.setTop (mkF m 0 #[rv t960, rv t962, .unset] [])) t → Steps p.tables e below (s₁.setTop (entryFrame m #[(.ref t960), (.ref t962)] 3)) t := fun t k => castTop (ef_23 m t960 t962) k
  have K0 : Keep h0 h0 [] := Keep.refl h0 []
  have pre1062 : ∀ t, Steps p.tables e below (s₁.setTop (mkF m 1 #[rv t960, rv t962, .unset] [(.ref t960)])) t → Steps p.tables e below (s₁.setTop (entryFrame m #[(.ref t960), (.ref t962)] 3)) t := fun t kt => by
    refine pre0 _ ?_
    show Steps p.tables e below (s₁.setTop (mkF m 0 #[rv t960, rv t962, .unset] [])) _
    refine XS.aloadN X0.here hx rfl (hb hby d25_0) rfl rfl ?_
    exact kt
  obtain ⟨c1061, Ar1061, -, S1061, M1061, -, -⟩ := id Fi0
  have pre1064 : ∀ t, Steps p.tables e below (s₁.setTop (mkF m 3 #[rv t960, rv t962, .unset] [(.ref t962), (.int (1 : Int32))])) t → Steps p.tables e below (s₁.setTop (entryFrame m #[(.ref t960), (.ref t962)] 3)) t := fun t kt => by
    refine pre1062 _ ?_
    show Steps p.tables e below (s₁.setTop (mkF m 1 #[rv t960, rv t962, .unset] [(.ref t960)])) _
    refine X0.arraylength hx (by rw [e0]; exact Ar1061.1) (State.isArrayOf_alike hZ.alike Ar1061.2.1) (g := (mkF m 1 #[rv t960, rv t962, .unset] [(.ref t960)])) rfl rfl (hb hby d25_1) _ ?_
    rw [len_of S1061 M1061]
    refine XS.aloadN X0.here hx rfl (hb hby d25_2) rfl rfl ?_
    exact kt
  obtain ⟨c1063, Ar1063, -, S1063, M1063, -, -⟩ := id Fi1
  have pre1066 : ∀ t, Steps p.tables e below (s₁.setTop (mkF m 11 #[rv t960, rv t962, iv (0 : Int32)] [(.ref t960), (.int (0 : Int32))])) t → Steps p.tables e below (s₁.setTop (entryFrame m #[(.ref t960), (.ref t962)] 3)) t := fun t kt => by
    refine pre1064 _ ?_
    show Steps p.tables e below (s₁.setTop (mkF m 3 #[rv t960, rv t962, .unset] [(.ref t962), (.int (1 : Int32))])) _
    refine X0.arraylength hx (by rw [e0]; exact Ar1063.1) (State.isArrayOf_alike hZ.alike Ar1063.2.1) (g := (mkF m 3 #[rv t960, rv t962, .unset] [(.ref t962), (.int (1 : Int32))])) rfl rfl (hb hby d25_3) _ ?_
    rw [len_of S1063 M1063]
    refine XS.icmpNo X0.here hx rfl (hb hby d25_4) rfl (XT.ii_ne_f (by decide)) ?_
    refine XS.iconst X0.here hx rfl (hb hby d25_7) ?_
    refine XS.istoreN X0.here hx rfl (hb hby d25_8) rfl (l' := #[rv t960, rv t962, iv (0 : Int32)]) rfl ?_
    refine XS.iloadN X0.here hx rfl (hb hby d25_9) rfl ?_
    refine XS.aloadN X0.here hx rfl (hb hby d25_10) rfl rfl ?_
    exact kt
  obtain ⟨c1065, Ar1065, -, S1065, M1065, -, -⟩ := id Fi0
  have pre1068 : ∀ t, Steps p.tables e below (s₁.setTop (mkF m 17 #[rv t960, rv t962, iv (0 : Int32)] [(.int (0 : Int32)), (.ref t960)])) t → Steps p.tables e below (s₁.setTop (entryFrame m #[(.ref t960), (.ref t962)] 3)) t := fun t kt => by
    refine pre1066 _ ?_
    show Steps p.tables e below (s₁.setTop (mkF m 11 #[rv t960, rv t962, iv (0 : Int32)] [(.ref t960), (.int (0 : Int32))])) _
    refine X0.arraylength hx (by rw [e0]; exact Ar1065.1) (State.isArrayOf_alike hZ.alike Ar1065.2.1) (g := (mkF m 11 #[rv t960, rv t962, iv (0 : Int32)] [(.ref t960), (.int (0 : Int32))])) rfl rfl (hb hby d25_11) _ ?_
    rw [len_of S1065 M1065]
    refine XS.icmpNo X0.here hx rfl (hb hby d25_12) rfl (XT.ii_ge_f (by decide)) ?_
    refine XS.aloadN X0.here hx rfl (hb hby d25_15) rfl rfl ?_
    refine XS.iloadN X0.here hx rfl (hb hby d25_16) rfl ?_
    exact kt
  obtain ⟨c1067, Ar1067, q1067, S1067, M1067, H1067, G1067⟩ := id Fi0
  have i1067 : ¬ ((0 : Int32) < 0 ∨ c1067.slots.size ≤ ((0 : Int32)).toNatClampNeg) := inb_of S1067 ⟨by decide, by decide⟩
  have t1067 : c1067.slots[((0 : Int32)).toNatClampNeg]? = some (.int c0) := Has.at H1067 i1067 rfl
  have pre1070 : ∀ t, Steps p.tables e below (s₁.setTop (mkF m 20 #[rv t960, rv t962, iv (0 : Int32)] [(.int (0 : Int32)), (.ref t962), (.int c0)])) t → Steps p.tables e below (s₁.setTop (entryFrame m #[(.ref t960), (.ref t962)] 3)) t := fun t kt => by
    refine pre1068 _ ?_
    show Steps p.tables e below (s₁.setTop (mkF m 17 #[rv t960, rv t962, iv (0 : Int32)] [(.int (0 : Int32)), (.ref t960)])) _
    refine X0.baloadBytes hx (j := (0 : Int32)) (v := (.int c0)) (by rw [e0]; exact Ar1067.1) (State.isArrayOf_alike hZ.alike Ar1067.2.1) Ar1067.2.2 i1067 t1067 (g := (mkF m 17 #[rv t960, rv t962, iv (0 : Int32)] [(.int (0 : Int32)), (.ref t960)])) rfl rfl (hb hby d25_17) _ ?_
    refine XS.aloadN X0.here hx rfl (hb hby d25_18) rfl rfl ?_
    refine XS.iloadN X0.here hx rfl (hb hby d25_19) rfl ?_
    exact kt
  obtain ⟨c1069, Ar1069, q1069, S1069, M1069, H1069, G1069⟩ := id Fi1
  have i1069 : ¬ ((0 : Int32) < 0 ∨ c1069.slots.size ≤ ((0 : Int32)).toNatClampNeg) := inb_of S1069 ⟨by decide, by decide⟩
  have t1069 : c1069.slots[((0 : Int32)).toNatClampNeg]? = some (.int d0) := Has.at H1069 i1069 rfl
  have pre1071 : ∀ t, Steps p.tables e below (s₁.setTop (mkF m 25 #[rv t960, rv t962, iv (0 : Int32)] [(.int (0 : Int32))])) t → Steps p.tables e below (s₁.setTop (entryFrame m #[(.ref t960), (.ref t962)] 3)) t := fun t kt => by
    refine pre1070 _ ?_
    show Steps p.tables e below (s₁.setTop (mkF m 20 #[rv t960, rv t962, iv (0 : Int32)] [(.int (0 : Int32)), (.ref t962), (.int c0)])) _
    refine X0.baloadBytes hx (j := (0 : Int32)) (v := (.int d0)) (by rw [e0]; exact Ar1069.1) (State.isArrayOf_alike hZ.alike Ar1069.2.1) Ar1069.2.2 i1069 t1069 (g := (mkF m 20 #[rv t960, rv t962, iv (0 : Int32)] [(.int (0 : Int32)), (.ref t962), (.int c0)])) rfl rfl (hb hby d25_20) _ ?_
    refine XS.icmpNo X0.here hx rfl (hb hby d25_21) rfl (XT.ii_eq_f (fun q => q0 q.symm)) ?_
    refine XS.iconst X0.here hx rfl (hb hby d25_24) ?_
    exact kt
  obtain ⟨fs, hr, hrun, hended, hW, hsame⟩ := X0.leave (v := some (.int (0 : Int32))) (fun h => by rw [Bd.returns] at h; cases h)
  refine ⟨_, _, pre1071 _ (retN X0 hx (t := .boolean) Bd.returns (by simp) (hb hby d25_25) hr), hrun, hended, _, _, rfl, ?_, ⟨_, rfl⟩, hW, hsame.mono (by decide) (by decide)⟩
  show Q_equals25_2 Z t960 t962 c0 k960 d0 k962 h0 n0 _ s₁.heap _
  rw [e0]
  exact ⟨rfl, N0, rfl⟩
theorem d24_54 : decode jdk_42_method_66_code 54 = .ok (.iconst 0, 1) := by decide +kernel
theorem d25_34 : decode jdk_43_method_13_code 34 = .ok (.iconst 0, 1) := by decide +kernel
theorem d25_35 : decode jdk_43_method_13_code 35 = .ok (.ireturn, 1) := by decide +kernel
def Q_equals25_3 (Z : State) (t960 : Addr) (t1074 : Addr) (c0 : Int32) (k960 : ClassId) (d0 : Int32) (d1 : Int32) (k1074 : ClassId) (h0 : Heap) (n0 : Nat) (v : Option Value) (h : Heap) (L : List Loc) : Prop := v = some (.int (0 : Int32)) ∧ Fr n0 L ∧ h = h0
set_option maxRecDepth 65536 in
set_option maxHeartbeats 40000000 in
theorem rm_equals25_3 (l : Launch) (Z : State) (a0 : Array Value) (hw : ∀ d ∈ tables_1, d.before a0 Z = true) (ws : List Jvm.Cond) (t960 : Addr) (t1074 : Addr) (c0 : Int32) (k960 : ClassId) (d0 : Int32) (d1 : Int32) (k1074 : ClassId) (h0 : Heap) (n0 : Nat) (O0 : Old Z n0 h0) (Fi0 : Arv Z h0 t960 k960 .byte (1 : Int32) [(.int c0)] (.int (0 : Int32))) (Fi1 : Arv Z h0 t1074 k1074 .byte (2 : Int32) [(.int d0), (.int d1)] (.int (0 : Int32))) :
    MetFree l (⟨"java/lang/StringLatin1", "equals", "([B[B)Z"⟩ : MethodName) (head1 (Jvm.Cond.code (⟨"java/lang/StringLatin1", "equals", "([B[B)Z"⟩ : MethodName) jdk_43_method_13_code 3 (some .boolean) :: ws) ({ frames := 0, cells := 0, slots := 0, locals := 0 } : Room)) (fun a U => a = #[(.ref t960), (.ref t1074)] ∧ Z.Warmed39 U.vm ∧ U.heap = h0) (fun _ _ _ _ _ => True) (fun _ U o U' => ∃ v L, o = .returned v ∧ Q_equals25_3 Z t960 t1074 c0 k960 d0 d1 k1074 h0 n0 v U'.heap L ∧ FrameEnd U o U' L ({ frames := 0, cells := 0, slots := 0, locals := 0 } : Room).cells ({ frames := 0, cells := 0, slots := 0, locals := 0 } : Room).slots) := by
  refine MetFree.of_bodySF (plainFor_of_name pn_22) hisR ?_
  intro p e s m args below meth c s₁ Bd hml0 hP hK
  have W := fun {d : Jvm.Cond} (i : Nat) (q : tables_1[i]? = some d) => hw d (List.mem_of_getElem? q)
  obtain ⟨rfl, hZ, hh⟩ := hP
  have hx := Bd.exec
  have hby := Bd.bytes
  have hml : c.maxLocals = 3 := hml0
  have hown : s.vm.findClass "java/lang/StringLatin1" = some m.cls := findClass_of_methodNamed Bd.named
  have hnm := (name_of_methodNamed Bd.named Bd.method).1
  have X0 : Stand p l e ({ frames := 0, cells := 0, slots := 0, locals := 0 } : Room) s m #[(.ref t960), (.ref t1074)] below meth c s₁ [] 0 0 := Stand.of_body Bd
  have e0 : s₁.heap = h0 := by rw [← hh, Bd.state]; rfl
  have N0 := Fr.nil n0
  have pre0 : ∀ t, Steps p.tables e below (s₁.setTop (mkF m 0 #[rv t960, rv t1074, .unset] [])) t → Steps p.tables e below (s₁.setTop (entryFrame m #[(.ref t960), (.ref t1074)] 3)) t := fun t k => castTop (ef_23 m t960 t1074) k
  have K0 : Keep h0 h0 [] := Keep.refl h0 []
  have pre1108 : ∀ t, Steps p.tables e below (s₁.setTop (mkF m 1 #[rv t960, rv t1074, .unset] [(.ref t960)])) t → Steps p.tables e below (s₁.setTop (entryFrame m #[(.ref t960), (.ref t1074)] 3)) t := fun t kt => by
    refine pre0 _ ?_
    show Steps p.tables e below (s₁.setTop (mkF m 0 #[rv t960, rv t1074, .unset] [])) _
    refine XS.aloadN X0.here hx rfl (hb hby d25_0) rfl rfl ?_
    exact kt
  obtain ⟨c1107, Ar1107, -, S1107, M1107, -, -⟩ := id Fi0
  have pre1110 : ∀ t, Steps p.tables e below (s₁.setTop (mkF m 3 #[rv t960, rv t1074, .unset] [(.ref t1074), (.int (1 : Int32))])) t → Steps p.tables e below (s₁.setTop (entryFrame m #[(.ref t960), (.ref t1074)] 3)) t := fun t kt => by
    refine pre1108 _ ?_
    show Steps p.tables e below (s₁.setTop (mkF m 1 #[rv t960, rv t1074, .unset] [(.ref t960)])) _
    refine X0.arraylength hx (by rw [e0]; exact Ar1107.1) (State.isArrayOf_alike hZ.alike Ar1107.2.1) (g := (mkF m 1 #[rv t960, rv t1074, .unset] [(.ref t960)])) rfl rfl (hb hby d25_1) _ ?_
    rw [len_of S1107 M1107]
    refine XS.aloadN X0.here hx rfl (hb hby d25_2) rfl rfl ?_
    exact kt
  obtain ⟨c1109, Ar1109, -, S1109, M1109, -, -⟩ := id Fi1
  have pre1111 : ∀ t, Steps p.tables e below (s₁.setTop (mkF m 35 #[rv t960, rv t1074, .unset] [(.int (0 : Int32))])) t → Steps p.tables e below (s₁.setTop (entryFrame m #[(.ref t960), (.ref t1074)] 3)) t := fun t kt => by
    refine pre1110 _ ?_
    show Steps p.tables e below (s₁.setTop (mkF m 3 #[rv t960, rv t1074, .unset] [(.ref t1074), (.int (1 : Int32))])) _
    refine X0.arraylength hx (by rw [e0]; exact Ar1109.1) (State.isArrayOf_alike hZ.alike Ar1109.2.1) (g := (mkF m 3 #[rv t960, rv t1074, .unset] [(.ref t1074), (.int (1 : Int32))])) rfl rfl (hb hby d25_3) _ ?_
    rw [len_of S1109 M1109]
    refine XS.icmpYes X0.here hx rfl (pc0 := 4) (pc' := 34) rfl (hb hby d25_4) rfl (XT.ii_ne_t (by decide)) (by decide) (by decide) ?_
    refine XS.iconst X0.here hx rfl (hb hby d25_34) ?_
    exact kt
  obtain ⟨fs, hr, hrun, hended, hW, hsame⟩ := X0.leave (v := some (.int (0 : Int32))) (fun h => by rw [Bd.returns] at h; cases h)
  refine ⟨_, _, pre1111 _ (retN X0 hx (t := .boolean) Bd.returns (by simp) (hb hby d25_35) hr), hrun, hended, _, _, rfl, ?_, ⟨_, rfl⟩, hW, hsame.mono (by decide) (by decide)⟩
  show Q_equals25_3 Z t960 t1074 c0 k960 d0 d1 k1074 h0 n0 _ s₁.heap _
  rw [e0]
  exact ⟨rfl, N0, rfl⟩
def Q_equals25_4 (Z : State) (t1114 : Addr) (t1116 : Addr) (c0 : Int32) (c1 : Int32) (k1114 : ClassId) (d0 : Int32) (k1116 : ClassId) (h0 : Heap) (n0 : Nat) (v : Option Value) (h : Heap) (L : List Loc) : Prop := v = some (.int (0 : Int32)) ∧ Fr n0 L ∧ h = h0
set_option maxRecDepth 65536 in
set_option maxHeartbeats 40000000 in
theorem rm_equals25_4 (l : Launch) (Z : State) (a0 : Array Value) (hw : ∀ d ∈ tables_1, d.before a0 Z = true) (ws : List Jvm.Cond) (t1114 : Addr) (t1116 : Addr) (c0 : Int32) (c1 : Int32) (k1114 : ClassId) (d0 : Int32) (k1116 : ClassId) (h0 : Heap) (n0 : Nat) (O0 : Old Z n0 h0) (Fi0 : Arv Z h0 t1114 k1114 .byte (2 : Int32) [(.int c0), (.int c1)] (.int (0 : Int32))) (Fi1 : Arv Z h0 t1116 k1116 .byte (1 : Int32) [(.int d0)] (.int (0 : Int32))) :
    MetFree l (⟨"java/lang/StringLatin1", "equals", "([B[B)Z"⟩ : MethodName) (head1 (Jvm.Cond.code (⟨"java/lang/StringLatin1", "equals", "([B[B)Z"⟩ : MethodName) jdk_43_method_13_code 3 (some .boolean) :: ws) ({ frames := 0, cells := 0, slots := 0, locals := 0 } : Room)) (fun a U => a = #[(.ref t1114), (.ref t1116)] ∧ Z.Warmed39 U.vm ∧ U.heap = h0) (fun _ _ _ _ _ => True) (fun _ U o U' => ∃ v L, o = .returned v ∧ Q_equals25_4 Z t1114 t1116 c0 c1 k1114 d0 k1116 h0 n0 v U'.heap L ∧ FrameEnd U o U' L ({ frames := 0, cells := 0, slots := 0, locals := 0 } : Room).cells ({ frames := 0, cells := 0, slots := 0, locals := 0 } : Room).slots) := by
  refine MetFree.of_bodySF (plainFor_of_name pn_22) hisR ?_
  intro p e s m args below meth c s₁ Bd hml0 hP hK
  have W := fun {d : Jvm.Cond} (i : Nat) (q : tables_1[i]? = some d) => hw d (List.mem_of_getElem? q)
  obtain ⟨rfl, hZ, hh⟩ := hP
  have hx := Bd.exec
  have hby := Bd.bytes
  have hml : c.maxLocals = 3 := hml0
  have hown : s.vm.findClass "java/lang/StringLatin1" = some m.cls := findClass_of_methodNamed Bd.named
  have hnm := (name_of_methodNamed Bd.named Bd.method).1
  have X0 : Stand p l e ({ frames := 0, cells := 0, slots := 0, locals := 0 } : Room) s m #[(.ref t1114), (.ref t1116)] below meth c s₁ [] 0 0 := Stand.of_body Bd
  have e0 : s₁.heap = h0 := by rw [← hh, Bd.state]; rfl
  have N0 := Fr.nil n0
  have pre0 : ∀ t, Steps p.tables e below (s₁.setTop (mkF m 0 #[rv t1114, rv t1116, .unset] [])) t → Steps p.tables e below (s₁.setTop (entryFrame m #[(.ref t1114), (.ref t1116)] 3)) t := fun t k => castTop (ef_23 m t1114 t1116) k
  have K0 : Keep h0 h0 [] := Keep.refl h0 []
  have pre1150 : ∀ t, Steps p.tables e below (s₁.setTop (mkF m 1 #[rv t1114, rv t1116, .unset] [(.ref t1114)])) t → Steps p.tables e below (s₁.setTop (entryFrame m #[(.ref t1114), (.ref t1116)] 3)) t := fun t kt => by
    refine pre0 _ ?_
    show Steps p.tables e below (s₁.setTop (mkF m 0 #[rv t1114, rv t1116, .unset] [])) _
    refine XS.aloadN X0.here hx rfl (hb hby d25_0) rfl rfl ?_
    exact kt
  obtain ⟨c1149, Ar1149, -, S1149, M1149, -, -⟩ := id Fi0
  have pre1152 : ∀ t, Steps p.tables e below (s₁.setTop (mkF m 3 #[rv t1114, rv t1116, .unset] [(.ref t1116), (.int (2 : Int32))])) t → Steps p.tables e below (s₁.setTop (entryFrame m #[(.ref t1114), (.ref t1116)] 3)) t := fun t kt => by
    refine pre1150 _ ?_
    show Steps p.tables e below (s₁.setTop (mkF m 1 #[rv t1114, rv t1116, .unset] [(.ref t1114)])) _
    refine X0.arraylength hx (by rw [e0]; exact Ar1149.1) (State.isArrayOf_alike hZ.alike Ar1149.2.1) (g := (mkF m 1 #[rv t1114, rv t1116, .unset] [(.ref t1114)])) rfl rfl (hb hby d25_1) _ ?_
    rw [len_of S1149 M1149]
    refine XS.aloadN X0.here hx rfl (hb hby d25_2) rfl rfl ?_
    exact kt
  obtain ⟨c1151, Ar1151, -, S1151, M1151, -, -⟩ := id Fi1
  have pre1153 : ∀ t, Steps p.tables e below (s₁.setTop (mkF m 35 #[rv t1114, rv t1116, .unset] [(.int (0 : Int32))])) t → Steps p.tables e below (s₁.setTop (entryFrame m #[(.ref t1114), (.ref t1116)] 3)) t := fun t kt => by
    refine pre1152 _ ?_
    show Steps p.tables e below (s₁.setTop (mkF m 3 #[rv t1114, rv t1116, .unset] [(.ref t1116), (.int (2 : Int32))])) _
    refine X0.arraylength hx (by rw [e0]; exact Ar1151.1) (State.isArrayOf_alike hZ.alike Ar1151.2.1) (g := (mkF m 3 #[rv t1114, rv t1116, .unset] [(.ref t1116), (.int (2 : Int32))])) rfl rfl (hb hby d25_3) _ ?_
    rw [len_of S1151 M1151]
    refine XS.icmpYes X0.here hx rfl (pc0 := 4) (pc' := 34) rfl (hb hby d25_4) rfl (XT.ii_ne_t (by decide)) (by decide) (by decide) ?_
    refine XS.iconst X0.here hx rfl (hb hby d25_34) ?_
    exact kt
  obtain ⟨fs, hr, hrun, hended, hW, hsame⟩ := X0.leave (v := some (.int (0 : Int32))) (fun h => by rw [Bd.returns] at h; cases h)
  refine ⟨_, _, pre1153 _ (retN X0 hx (t := .boolean) Bd.returns (by simp) (hb hby d25_35) hr), hrun, hended, _, _, rfl, ?_, ⟨_, rfl⟩, hW, hsame.mono (by decide) (by decide)⟩
  show Q_equals25_4 Z t1114 t1116 c0 c1 k1114 d0 k1116 h0 n0 _ s₁.heap _
  rw [e0]
  exact ⟨rfl, N0, rfl⟩
def Q_equals25_7 (Z : State) (t1114 : Addr) (t1156 : Addr) (c0 : Int32) (c1 : Int32) (k1114 : ClassId) (d0 : Int32) (d1 : Int32) (k1156 : ClassId) (h0 : Heap) (n0 : Nat) (v : Option Value) (h : Heap) (L : List Loc) : Prop := v = some (.int (1 : Int32)) ∧ Fr n0 L ∧ h = h0
set_option maxRecDepth 65536 in
set_option maxHeartbeats 40000000 in
theorem rm_equals25_7 (l : Launch) (Z : State) (a0 : Array Value) (hw : ∀ d ∈ tables_1, d.before a0 Z = true) (ws : List Jvm.Cond) (t1114 : Addr) (t1156 : Addr) (c0 : Int32) (c1 : Int32) (k1114 : ClassId) (d0 : Int32) (d1 : Int32) (k1156 : ClassId) (h0 : Heap) (n0 : Nat) (O0 : Old Z n0 h0) (Fi0 : Arv Z h0 t1114 k1114 .byte (2 : Int32) [(.int c0), (.int c1)] (.int (0 : Int32))) (Fi1 : Arv Z h0 t1156 k1156 .byte (2 : Int32) [(.int d0), (.int d1)] (.int (0 : Int32))) (q0 : d0 = c0) (q1 : d1 = c1) :
    MetFree l (⟨"java/lang/StringLatin1", "equals", "([B[B)Z"⟩ : MethodName) (head1 (Jvm.Cond.code (⟨"java/lang/StringLatin1", "equals", "([B[B)Z"⟩ : MethodName) jdk_43_method_13_code 3 (some .boolean) :: ws) ({ frames := 0, cells := 0, slots := 0, locals := 0 } : Room)) (fun a U => a = #[(.ref t1114), (.ref t1156)] ∧ Z.Warmed39 U.vm ∧ U.heap = h0) (fun _ _ _ _ _ => True) (fun _ U o U' => ∃ v L, o = .returned v ∧ Q_equals25_7 Z t1114 t1156 c0 c1 k1114 d0 d1 k1156 h0 n0 v U'.heap L ∧ FrameEnd U o U' L ({ frames := 0, cells := 0, slots := 0, locals := 0 } : Room).cells ({ frames := 0, cells := 0, slots := 0, locals := 0 } : Room).slots) := by
  refine MetFree.of_bodySF (plainFor_of_name pn_22) hisR ?_
  intro p e s m args below meth c s₁ Bd hml0 hP hK
  have W := fun {d : Jvm.Cond} (i : Nat) (q : tables_1[i]? = some d) => hw d (List.mem_of_getElem? q)
  obtain ⟨rfl, hZ, hh⟩ := hP
  have hx := Bd.exec
  have hby := Bd.bytes
  have hml : c.maxLocals = 3 := hml0
  have hown : s.vm.findClass "java/lang/StringLatin1" = some m.cls := findClass_of_methodNamed Bd.named
  have hnm := (name_of_methodNamed Bd.named Bd.method).1
  have X0 : Stand p l e ({ frames := 0, cells := 0, slots := 0, locals := 0 } : Room) s m #[(.ref t1114), (.ref t1156)] below meth c s₁ [] 0 0 := Stand.of_body Bd
  have e0 : s₁.heap = h0 := by rw [← hh, Bd.state]; rfl
  have N0 := Fr.nil n0
  have pre0 : ∀ t, Steps p.tables e below (s₁.setTop (mkF m 0 #[rv t1114, rv t1156, .unset] [])) t → Steps p.tables e below (s₁.setTop (entryFrame m #[(.ref t1114), (.ref t1156)] 3)) t := fun t k => castTop (ef_23 m t1114 t1156) k
  have K0 : Keep h0 h0 [] := Keep.refl h0 []
  have pre1248 : ∀ t, Steps p.tables e below (s₁.setTop (mkF m 1 #[rv t1114, rv t1156, .unset] [(.ref t1114)])) t → Steps p.tables e below (s₁.setTop (entryFrame m #[(.ref t1114), (.ref t1156)] 3)) t := fun t kt => by
    refine pre0 _ ?_
    show Steps p.tables e below (s₁.setTop (mkF m 0 #[rv t1114, rv t1156, .unset] [])) _
    refine XS.aloadN X0.here hx rfl (hb hby d25_0) rfl rfl ?_
    exact kt
  obtain ⟨c1247, Ar1247, -, S1247, M1247, -, -⟩ := id Fi0
  have pre1250 : ∀ t, Steps p.tables e below (s₁.setTop (mkF m 3 #[rv t1114, rv t1156, .unset] [(.ref t1156), (.int (2 : Int32))])) t → Steps p.tables e below (s₁.setTop (entryFrame m #[(.ref t1114), (.ref t1156)] 3)) t := fun t kt => by
    refine pre1248 _ ?_
    show Steps p.tables e below (s₁.setTop (mkF m 1 #[rv t1114, rv t1156, .unset] [(.ref t1114)])) _
    refine X0.arraylength hx (by rw [e0]; exact Ar1247.1) (State.isArrayOf_alike hZ.alike Ar1247.2.1) (g := (mkF m 1 #[rv t1114, rv t1156, .unset] [(.ref t1114)])) rfl rfl (hb hby d25_1) _ ?_
    rw [len_of S1247 M1247]
    refine XS.aloadN X0.here hx rfl (hb hby d25_2) rfl rfl ?_
    exact kt
  obtain ⟨c1249, Ar1249, -, S1249, M1249, -, -⟩ := id Fi1
  have pre1252 : ∀ t, Steps p.tables e below (s₁.setTop (mkF m 11 #[rv t1114, rv t1156, iv (0 : Int32)] [(.ref t1114), (.int (0 : Int32))])) t → Steps p.tables e below (s₁.setTop (entryFrame m #[(.ref t1114), (.ref t1156)] 3)) t := fun t kt => by
    refine pre1250 _ ?_
    show Steps p.tables e below (s₁.setTop (mkF m 3 #[rv t1114, rv t1156, .unset] [(.ref t1156), (.int (2 : Int32))])) _
    refine X0.arraylength hx (by rw [e0]; exact Ar1249.1) (State.isArrayOf_alike hZ.alike Ar1249.2.1) (g := (mkF m 3 #[rv t1114, rv t1156, .unset] [(.ref t1156), (.int (2 : Int32))])) rfl rfl (hb hby d25_3) _ ?_
    rw [len_of S1249 M1249]
    refine XS.icmpNo X0.here hx rfl (hb hby d25_4) rfl (XT.ii_ne_f (by decide)) ?_
    refine XS.iconst X0.here hx rfl (hb hby d25_7) ?_
    refine XS.istoreN X0.here hx rfl (hb hby d25_8) rfl (l' := #[rv t1114, rv t1156, iv (0 : Int32)]) rfl ?_
    refine XS.iloadN X0.here hx rfl (hb hby d25_9) rfl ?_
    refine XS.aloadN X0.here hx rfl (hb hby d25_10) rfl rfl ?_
    exact kt
  obtain ⟨c1251, Ar1251, -, S1251, M1251, -, -⟩ := id Fi0
  have pre1254 : ∀ t, Steps p.tables e below (s₁.setTop (mkF m 17 #[rv t1114, rv t1156, iv (0 : Int32)] [(.int (0 : Int32)), (.ref t1114)])) t → Steps p.tables e below (s₁.setTop (entryFrame m #[(.ref t1114), (.ref t1156)] 3)) t := fun t kt => by
    refine pre1252 _ ?_
    show Steps p.tables e below (s₁.setTop (mkF m 11 #[rv t1114, rv t1156, iv (0 : Int32)] [(.ref t1114), (.int (0 : Int32))])) _
    refine X0.arraylength hx (by rw [e0]; exact Ar1251.1) (State.isArrayOf_alike hZ.alike Ar1251.2.1) (g := (mkF m 11 #[rv t1114, rv t1156, iv (0 : Int32)] [(.ref t1114), (.int (0 : Int32))])) rfl rfl (hb hby d25_11) _ ?_
    rw [len_of S1251 M1251]
    refine XS.icmpNo X0.here hx rfl (hb hby d25_12) rfl (XT.ii_ge_f (by decide)) ?_
    refine XS.aloadN X0.here hx rfl (hb hby d25_15) rfl rfl ?_
    refine XS.iloadN X0.here hx rfl (hb hby d25_16) rfl ?_
    exact kt
  obtain ⟨c1253, Ar1253, q1253, S1253, M1253, H1253, G1253⟩ := id Fi0
  have i1253 : ¬ ((0 : Int32) < 0 ∨ c1253.slots.size ≤ ((0 : Int32)).toNatClampNeg) := inb_of S1253 ⟨by decide, by decide⟩
  have t1253 : c1253.slots[((0 : Int32)).toNatClampNeg]? = some (.int c0) := Has.at H1253 i1253 rfl
  have pre1256 : ∀ t, Steps p.tables e below (s₁.setTop (mkF m 20 #[rv t1114, rv t1156, iv (0 : Int32)] [(.int (0 : Int32)), (.ref t1156), (.int c0)])) t → Steps p.tables e below (s₁.setTop (entryFrame m #[(.ref t1114), (.ref t1156)] 3)) t := fun t kt => by
    refine pre1254 _ ?_
    show Steps p.tables e below (s₁.setTop (mkF m 17 #[rv t1114, rv t1156, iv (0 : Int32)] [(.int (0 : Int32)), (.ref t1114)])) _
    refine X0.baloadBytes hx (j := (0 : Int32)) (v := (.int c0)) (by rw [e0]; exact Ar1253.1) (State.isArrayOf_alike hZ.alike Ar1253.2.1) Ar1253.2.2 i1253 t1253 (g := (mkF m 17 #[rv t1114, rv t1156, iv (0 : Int32)] [(.int (0 : Int32)), (.ref t1114)])) rfl rfl (hb hby d25_17) _ ?_
    refine XS.aloadN X0.here hx rfl (hb hby d25_18) rfl rfl ?_
    refine XS.iloadN X0.here hx rfl (hb hby d25_19) rfl ?_
    exact kt
  obtain ⟨c1255, Ar1255, q1255, S1255, M1255, H1255, G1255⟩ := id Fi1
  have i1255 : ¬ ((0 : Int32) < 0 ∨ c1255.slots.size ≤ ((0 : Int32)).toNatClampNeg) := inb_of S1255 ⟨by decide, by decide⟩
  have t1255 : c1255.slots[((0 : Int32)).toNatClampNeg]? = some (.int d0) := Has.at H1255 i1255 rfl
  have pre1258 : ∀ t, Steps p.tables e below (s₁.setTop (mkF m 11 #[rv t1114, rv t1156, iv (1 : Int32)] [(.ref t1114), (.int (1 : Int32))])) t → Steps p.tables e below (s₁.setTop (entryFrame m #[(.ref t1114), (.ref t1156)] 3)) t := fun t kt => by
    refine pre1256 _ ?_
    show Steps p.tables e below (s₁.setTop (mkF m 20 #[rv t1114, rv t1156, iv (0 : Int32)] [(.int (0 : Int32)), (.ref t1156), (.int c0)])) _
    refine X0.baloadBytes hx (j := (0 : Int32)) (v := (.int d0)) (by rw [e0]; exact Ar1255.1) (State.isArrayOf_alike hZ.alike Ar1255.2.1) Ar1255.2.2 i1255 t1255 (g := (mkF m 20 #[rv t1114, rv t1156, iv (0 : Int32)] [(.int (0 : Int32)), (.ref t1156), (.int c0)])) rfl rfl (hb hby d25_20) _ ?_
    refine XS.icmpYes X0.here hx rfl (pc0 := 21) (pc' := 26) rfl (hb hby d25_21) rfl (XT.ii_eq_t q0.symm) (by decide) (by decide) ?_
    refine XS.iinc X0.here hx rfl (hb hby d25_26) rfl (l' := #[rv t1114, rv t1156, iv ((0 : Int32) + (1 : Int32))]) rfl ?_
    show  Steps p.tables e below (s₁.setTop (mkF m 29 #[rv t1114, rv t1156, iv ((0 : Int32) + (1 : Int32))] [])) _
    rw [(by decide : (((0 : Int32) + (1 : Int32)) : Int32) = (1 : Int32))]
    refine XS.goto X0.here hx rfl (pc0 := 29) (pc' := 9) rfl (hb hby d25_29) (by decide) (by decide) ?_
    refine XS.iloadN X0.here hx rfl (hb hby d25_9) rfl ?_
    refine XS.aloadN X0.here hx rfl (hb hby d25_10) rfl rfl ?_
    exact kt
  obtain ⟨c1257, Ar1257, -, S1257, M1257, -, -⟩ := id Fi0
  have pre1260 : ∀ t, Steps p.tables e below (s₁.setTop (mkF m 17 #[rv t1114, rv t1156, iv (1 : Int32)] [(.int (1 : Int32)), (.ref t1114)])) t → Steps p.tables e below (s₁.setTop (entryFrame m #[(.ref t1114), (.ref t1156)] 3)) t := fun t kt => by
    refine pre1258 _ ?_
    show Steps p.tables e below (s₁.setTop (mkF m 11 #[rv t1114, rv t1156, iv (1 : Int32)] [(.ref t1114), (.int (1 : Int32))])) _
    refine X0.arraylength hx (by rw [e0]; exact Ar1257.1) (State.isArrayOf_alike hZ.alike Ar1257.2.1) (g := (mkF m 11 #[rv t1114, rv t1156, iv (1 : Int32)] [(.ref t1114), (.int (1 : Int32))])) rfl rfl (hb hby d25_11) _ ?_
    rw [len_of S1257 M1257]
    refine XS.icmpNo X0.here hx rfl (hb hby d25_12) rfl (XT.ii_ge_f (by decide)) ?_
    refine XS.aloadN X0.here hx rfl (hb hby d25_15) rfl rfl ?_
    refine XS.iloadN X0.here hx rfl (hb hby d25_16) rfl ?_
    exact kt
  obtain ⟨c1259, Ar1259, q1259, S1259, M1259, H1259, G1259⟩ := id Fi0
  have i1259 : ¬ ((1 : Int32) < 0 ∨ c1259.slots.size ≤ ((1 : Int32)).toNatClampNeg) := inb_of S1259 ⟨by decide, by decide⟩
  have t1259 : c1259.slots[((1 : Int32)).toNatClampNeg]? = some (.int c1) := Has.at H1259 i1259 rfl
  have pre1262 : ∀ t, Steps p.tables e below (s₁.setTop (mkF m 20 #[rv t1114, rv t1156, iv (1 : Int32)] [(.int (1 : Int32)), (.ref t1156), (.int c1)])) t → Steps p.tables e below (s₁.setTop (entryFrame m #[(.ref t1114), (.ref t1156)] 3)) t := fun t kt => by
    refine pre1260 _ ?_
    show Steps p.tables e below (s₁.setTop (mkF m 17 #[rv t1114, rv t1156, iv (1 : Int32)] [(.int (1 : Int32)), (.ref t1114)])) _
    refine X0.baloadBytes hx (j := (1 : Int32)) (v := (.int c1)) (by rw [e0]; exact Ar1259.1) (State.isArrayOf_alike hZ.alike Ar1259.2.1) Ar1259.2.2 i1259 t1259 (g := (mkF m 17 #[rv t1114, rv t1156, iv (1 : Int32)] [(.int (1 : Int32)), (.ref t1114)])) rfl rfl (hb hby d25_17) _ ?_
    refine XS.aloadN X0.here hx rfl (hb hby d25_18) rfl rfl ?_
    refine XS.iloadN X0.here hx rfl (hb hby d25_19) rfl ?_
    exact kt
  obtain ⟨c1261, Ar1261, q1261, S1261, M1261, H1261, G1261⟩ := id Fi1
  have i1261 : ¬ ((1 : Int32) < 0 ∨ c1261.slots.size ≤ ((1 : Int32)).toNatClampNeg) := inb_of S1261 ⟨by decide, by decide⟩
  have t1261 : c1261.slots[((1 : Int32)).toNatClampNeg]? = some (.int d1) := Has.at H1261 i1261 rfl
  have pre1264 : ∀ t, Steps p.tables e below (s₁.setTop (mkF m 11 #[rv t1114, rv t1156, iv (2 : Int32)] [(.ref t1114), (.int (2 : Int32))])) t → Steps p.tables e below (s₁.setTop (entryFrame m #[(.ref t1114), (.ref t1156)] 3)) t := fun t kt => by
    refine pre1262 _ ?_
    show Steps p.tables e below (s₁.setTop (mkF m 20 #[rv t1114, rv t1156, iv (1 : Int32)] [(.int (1 : Int32)), (.ref t1156), (.int c1)])) _
    refine X0.baloadBytes hx (j := (1 : Int32)) (v := (.int d1)) (by rw [e0]; exact Ar1261.1) (State.isArrayOf_alike hZ.alike Ar1261.2.1) Ar1261.2.2 i1261 t1261 (g := (mkF m 20 #[rv t1114, rv t1156, iv (1 : Int32)] [(.int (1 : Int32)), (.ref t1156), (.int c1)])) rfl rfl (hb hby d25_20) _ ?_
    refine XS.icmpYes X0.here hx rfl (pc0 := 21) (pc' := 26) rfl (hb hby d25_21) rfl (XT.ii_eq_t q1.symm) (by decide) (by decide) ?_
    refine XS.iinc X0.here hx rfl (hb hby d25_26) rfl (l' := #[rv t1114, rv t1156, iv ((1 : Int32) + (1 : Int32))]) rfl ?_
    show  Steps p.tables e below (s₁.setTop (mkF m 29 #[rv t1114, rv t1156, iv ((1 : Int32) + (1 : Int32))] [])) _
    rw [(by decide : (((1 : Int32) + (1 : Int32)) : Int32) = (2 : Int32))]
    refine XS.goto X0.here hx rfl (pc0 := 29) (pc' := 9) rfl (hb hby d25_29) (by decide) (by decide) ?_
    refine XS.iloadN X0.here hx rfl (hb hby d25_9) rfl ?_
    refine XS.aloadN X0.here hx rfl (hb hby d25_10) rfl rfl ?_
    exact kt
  obtain ⟨c1263, Ar1263, -, S1263, M1263, -, -⟩ := id Fi0
  have pre1265 : ∀ t, Steps p.tables e below (s₁.setTop (mkF m 33 #[rv t1114, rv t1156, iv (2 : Int32)] [(.int (1 : Int32))])) t → Steps p.tables e below (s₁.setTop (entryFrame m #[(.ref t1114), (.ref t1156)] 3)) t := fun t kt => by
    refine pre1264 _ ?_
    show Steps p.tables e below (s₁.setTop (mkF m 11 #[rv t1114, rv t1156, iv (2 : Int32)] [(.ref t1114), (.int (2 : Int32))])) _
    refine X0.arraylength hx (by rw [e0]; exact Ar1263.1) (State.isArrayOf_alike hZ.alike Ar1263.2.1) (g := (mkF m 11 #[rv t1114, rv t1156, iv (2 : Int32)] [(.ref t1114), (.int (2 : Int32))])) rfl rfl (hb hby d25_11) _ ?_
    rw [len_of S1263 M1263]
    refine XS.icmpYes X0.here hx rfl (pc0 := 12) (pc' := 32) rfl (hb hby d25_12) rfl (XT.ii_ge_t (by decide)) (by decide) (by decide) ?_
    refine XS.iconst X0.here hx rfl (hb hby d25_32) ?_
    exact kt
  obtain ⟨fs, hr, hrun, hended, hW, hsame⟩ := X0.leave (v := some (.int (1 : Int32))) (fun h => by rw [Bd.returns] at h; cases h)
  refine ⟨_, _, pre1265 _ (retN X0 hx (t := .boolean) Bd.returns (by simp) (hb hby d25_33) hr), hrun, hended, _, _, rfl, ?_, ⟨_, rfl⟩, hW, hsame.mono (by decide) (by decide)⟩
  show Q_equals25_7 Z t1114 t1156 c0 c1 k1114 d0 d1 k1156 h0 n0 _ s₁.heap _
  rw [e0]
  exact ⟨rfl, N0, rfl⟩
def Q_equals25_8 (Z : State) (t1114 : Addr) (t1156 : Addr) (c0 : Int32) (c1 : Int32) (k1114 : ClassId) (d0 : Int32) (d1 : Int32) (k1156 : ClassId) (h0 : Heap) (n0 : Nat) (v : Option Value) (h : Heap) (L : List Loc) : Prop := v = some (.int (0 : Int32)) ∧ Fr n0 L ∧ h = h0
set_option maxRecDepth 65536 in
set_option maxHeartbeats 40000000 in
theorem rm_equals25_8 (l : Launch) (Z : State) (a0 : Array Value) (hw : ∀ d ∈ tables_1, d.before a0 Z = true) (ws : List Jvm.Cond) (t1114 : Addr) (t1156 : Addr) (c0 : Int32) (c1 : Int32) (k1114 : ClassId) (d0 : Int32) (d1 : Int32) (k1156 : ClassId) (h0 : Heap) (n0 : Nat) (O0 : Old Z n0 h0) (Fi0 : Arv Z h0 t1114 k1114 .byte (2 : Int32) [(.int c0), (.int c1)] (.int (0 : Int32))) (Fi1 : Arv Z h0 t1156 k1156 .byte (2 : Int32) [(.int d0), (.int d1)] (.int (0 : Int32))) (q0 : d0 = c0) (q1 : ¬ (d1 = c1)) :
    MetFree l (⟨"java/lang/StringLatin1", "equals", "([B[B)Z"⟩ : MethodName) (head1 (Jvm.Cond.code (⟨"java/lang/StringLatin1", "equals", "([B[B)Z"⟩ : MethodName) jdk_43_method_13_code 3 (some .boolean) :: ws) ({ frames := 0, cells := 0, slots := 0, locals := 0 } : Room)) (fun a U => a = #[(.ref t1114), (.ref t1156)] ∧ Z.Warmed39 U.vm ∧ U.heap = h0) (fun _ _ _ _ _ => True) (fun _ U o U' => ∃ v L, o = .returned v ∧ Q_equals25_8 Z t1114 t1156 c0 c1 k1114 d0 d1 k1156 h0 n0 v U'.heap L ∧ FrameEnd U o U' L ({ frames := 0, cells := 0, slots := 0, locals := 0 } : Room).cells ({ frames := 0, cells := 0, slots := 0, locals := 0 } : Room).slots) := by
  refine MetFree.of_bodySF (plainFor_of_name pn_22) hisR ?_
  intro p e s m args below meth c s₁ Bd hml0 hP hK
  have W := fun {d : Jvm.Cond} (i : Nat) (q : tables_1[i]? = some d) => hw d (List.mem_of_getElem? q)
  obtain ⟨rfl, hZ, hh⟩ := hP
  have hx := Bd.exec
  have hby := Bd.bytes
  have hml : c.maxLocals = 3 := hml0
  have hown : s.vm.findClass "java/lang/StringLatin1" = some m.cls := findClass_of_methodNamed Bd.named
  have hnm := (name_of_methodNamed Bd.named Bd.method).1
  have X0 : Stand p l e ({ frames := 0, cells := 0, slots := 0, locals := 0 } : Room) s m #[(.ref t1114), (.ref t1156)] below meth c s₁ [] 0 0 := Stand.of_body Bd
  have e0 : s₁.heap = h0 := by rw [← hh, Bd.state]; rfl
  have N0 := Fr.nil n0
  have pre0 : ∀ t, Steps p.tables e below (s₁.setTop (mkF m 0 #[rv t1114, rv t1156, .unset] [])) t → Steps p.tables e below (s₁.setTop (entryFrame m #[(.ref t1114), (.ref t1156)] 3)) t := fun t k => castTop (ef_23 m t1114 t1156) k
  have K0 : Keep h0 h0 [] := Keep.refl h0 []
  have pre1304 : ∀ t, Steps p.tables e below (s₁.setTop (mkF m 1 #[rv t1114, rv t1156, .unset] [(.ref t1114)])) t → Steps p.tables e below (s₁.setTop (entryFrame m #[(.ref t1114), (.ref t1156)] 3)) t := fun t kt => by
    refine pre0 _ ?_
    show Steps p.tables e below (s₁.setTop (mkF m 0 #[rv t1114, rv t1156, .unset] [])) _
    refine XS.aloadN X0.here hx rfl (hb hby d25_0) rfl rfl ?_
    exact kt
  obtain ⟨c1303, Ar1303, -, S1303, M1303, -, -⟩ := id Fi0
  have pre1306 : ∀ t, Steps p.tables e below (s₁.setTop (mkF m 3 #[rv t1114, rv t1156, .unset] [(.ref t1156), (.int (2 : Int32))])) t → Steps p.tables e below (s₁.setTop (entryFrame m #[(.ref t1114), (.ref t1156)] 3)) t := fun t kt => by
    refine pre1304 _ ?_
    show Steps p.tables e below (s₁.setTop (mkF m 1 #[rv t1114, rv t1156, .unset] [(.ref t1114)])) _
    refine X0.arraylength hx (by rw [e0]; exact Ar1303.1) (State.isArrayOf_alike hZ.alike Ar1303.2.1) (g := (mkF m 1 #[rv t1114, rv t1156, .unset] [(.ref t1114)])) rfl rfl (hb hby d25_1) _ ?_
    rw [len_of S1303 M1303]
    refine XS.aloadN X0.here hx rfl (hb hby d25_2) rfl rfl ?_
    exact kt
  obtain ⟨c1305, Ar1305, -, S1305, M1305, -, -⟩ := id Fi1
  have pre1308 : ∀ t, Steps p.tables e below (s₁.setTop (mkF m 11 #[rv t1114, rv t1156, iv (0 : Int32)] [(.ref t1114), (.int (0 : Int32))])) t → Steps p.tables e below (s₁.setTop (entryFrame m #[(.ref t1114), (.ref t1156)] 3)) t := fun t kt => by
    refine pre1306 _ ?_
    show Steps p.tables e below (s₁.setTop (mkF m 3 #[rv t1114, rv t1156, .unset] [(.ref t1156), (.int (2 : Int32))])) _
    refine X0.arraylength hx (by rw [e0]; exact Ar1305.1) (State.isArrayOf_alike hZ.alike Ar1305.2.1) (g := (mkF m 3 #[rv t1114, rv t1156, .unset] [(.ref t1156), (.int (2 : Int32))])) rfl rfl (hb hby d25_3) _ ?_
    rw [len_of S1305 M1305]
    refine XS.icmpNo X0.here hx rfl (hb hby d25_4) rfl (XT.ii_ne_f (by decide)) ?_
    refine XS.iconst X0.here hx rfl (hb hby d25_7) ?_
    refine XS.istoreN X0.here hx rfl (hb hby d25_8) rfl (l' := #[rv t1114, rv t1156, iv (0 : Int32)]) rfl ?_
    refine XS.iloadN X0.here hx rfl (hb hby d25_9) rfl ?_
    refine XS.aloadN X0.here hx rfl (hb hby d25_10) rfl rfl ?_
    exact kt
  obtain ⟨c1307, Ar1307, -, S1307, M1307, -, -⟩ := id Fi0
  have pre1310 : ∀ t, Steps p.tables e below (s₁.setTop (mkF m 17 #[rv t1114, rv t1156, iv (0 : Int32)] [(.int (0 : Int32)), (.ref t1114)])) t → Steps p.tables e below (s₁.setTop (entryFrame m #[(.ref t1114), (.ref t1156)] 3)) t := fun t kt => by
    refine pre1308 _ ?_
    show Steps p.tables e below (s₁.setTop (mkF m 11 #[rv t1114, rv t1156, iv (0 : Int32)] [(.ref t1114), (.int (0 : Int32))])) _
    refine X0.arraylength hx (by rw [e0]; exact Ar1307.1) (State.isArrayOf_alike hZ.alike Ar1307.2.1) (g := (mkF m 11 #[rv t1114, rv t1156, iv (0 : Int32)] [(.ref t1114), (.int (0 : Int32))])) rfl rfl (hb hby d25_11) _ ?_
    rw [len_of S1307 M1307]
    refine XS.icmpNo X0.here hx rfl (hb hby d25_12) rfl (XT.ii_ge_f (by decide)) ?_
    refine XS.aloadN X0.here hx rfl (hb hby d25_15) rfl rfl ?_
    refine XS.iloadN X0.here hx rfl (hb hby d25_16) rfl ?_
    exact kt
  obtain ⟨c1309, Ar1309, q1309, S1309, M1309, H1309, G1309⟩ := id Fi0
  have i1309 : ¬ ((0 : Int32) < 0 ∨ c1309.slots.size ≤ ((0 : Int32)).toNatClampNeg) := inb_of S1309 ⟨by decide, by decide⟩
  have t1309 : c1309.slots[((0 : Int32)).toNatClampNeg]? = some (.int c0) := Has.at H1309 i1309 rfl
  have pre1312 : ∀ t, Steps p.tables e below (s₁.setTop (mkF m 20 #[rv t1114, rv t1156, iv (0 : Int32)] [(.int (0 : Int32)), (.ref t1156), (.int c0)])) t → Steps p.tables e below (s₁.setTop (entryFrame m #[(.ref t1114), (.ref t1156)] 3)) t := fun t kt => by
    refine pre1310 _ ?_
    show Steps p.tables e below (s₁.setTop (mkF m 17 #[rv t1114, rv t1156, iv (0 : Int32)] [(.int (0 : Int32)), (.ref t1114)])) _
    refine X0.baloadBytes hx (j := (0 : Int32)) (v := (.int c0)) (by rw [e0]; exact Ar1309.1) (State.isArrayOf_alike hZ.alike Ar1309.2.1) Ar1309.2.2 i1309 t1309 (g := (mkF m 17 #[rv t1114, rv t1156, iv (0 : Int32)] [(.int (0 : Int32)), (.ref t1114)])) rfl rfl (hb hby d25_17) _ ?_
    refine XS.aloadN X0.here hx rfl (hb hby d25_18) rfl rfl ?_
    refine XS.iloadN X0.here hx rfl (hb hby d25_19) rfl ?_
    exact kt
  obtain ⟨c1311, Ar1311, q1311, S1311, M1311, H1311, G1311⟩ := id Fi1
  have i1311 : ¬ ((0 : Int32) < 0 ∨ c1311.slots.size ≤ ((0 : Int32)).toNatClampNeg) := inb_of S1311 ⟨by decide, by decide⟩
  have t1311 : c1311.slots[((0 : Int32)).toNatClampNeg]? = some (.int d0) := Has.at H1311 i1311 rfl
  have pre1314 : ∀ t, Steps p.tables e below (s₁.setTop (mkF m 11 #[rv t1114, rv t1156, iv (1 : Int32)] [(.ref t1114), (.int (1 : Int32))])) t → Steps p.tables e below (s₁.setTop (entryFrame m #[(.ref t1114), (.ref t1156)] 3)) t := fun t kt => by
    refine pre1312 _ ?_
    show Steps p.tables e below (s₁.setTop (mkF m 20 #[rv t1114, rv t1156, iv (0 : Int32)] [(.int (0 : Int32)), (.ref t1156), (.int c0)])) _
    refine X0.baloadBytes hx (j := (0 : Int32)) (v := (.int d0)) (by rw [e0]; exact Ar1311.1) (State.isArrayOf_alike hZ.alike Ar1311.2.1) Ar1311.2.2 i1311 t1311 (g := (mkF m 20 #[rv t1114, rv t1156, iv (0 : Int32)] [(.int (0 : Int32)), (.ref t1156), (.int c0)])) rfl rfl (hb hby d25_20) _ ?_
    refine XS.icmpYes X0.here hx rfl (pc0 := 21) (pc' := 26) rfl (hb hby d25_21) rfl (XT.ii_eq_t q0.symm) (by decide) (by decide) ?_
    refine XS.iinc X0.here hx rfl (hb hby d25_26) rfl (l' := #[rv t1114, rv t1156, iv ((0 : Int32) + (1 : Int32))]) rfl ?_
    show  Steps p.tables e below (s₁.setTop (mkF m 29 #[rv t1114, rv t1156, iv ((0 : Int32) + (1 : Int32))] [])) _
    rw [(by decide : (((0 : Int32) + (1 : Int32)) : Int32) = (1 : Int32))]
    refine XS.goto X0.here hx rfl (pc0 := 29) (pc' := 9) rfl (hb hby d25_29) (by decide) (by decide) ?_
    refine XS.iloadN X0.here hx rfl (hb hby d25_9) rfl ?_
    refine XS.aloadN X0.here hx rfl (hb hby d25_10) rfl rfl ?_
    exact kt
  obtain ⟨c1313, Ar1313, -, S1313, M1313, -, -⟩ := id Fi0
  have pre1316 : ∀ t, Steps p.tables e below (s₁.setTop (mkF m 17 #[rv t1114, rv t1156, iv (1 : Int32)] [(.int (1 : Int32)), (.ref t1114)])) t → Steps p.tables e below (s₁.setTop (entryFrame m #[(.ref t1114), (.ref t1156)] 3)) t := fun t kt => by
    refine pre1314 _ ?_
    show Steps p.tables e below (s₁.setTop (mkF m 11 #[rv t1114, rv t1156, iv (1 : Int32)] [(.ref t1114), (.int (1 : Int32))])) _
    refine X0.arraylength hx (by rw [e0]; exact Ar1313.1) (State.isArrayOf_alike hZ.alike Ar1313.2.1) (g := (mkF m 11 #[rv t1114, rv t1156, iv (1 : Int32)] [(.ref t1114), (.int (1 : Int32))])) rfl rfl (hb hby d25_11) _ ?_
    rw [len_of S1313 M1313]
    refine XS.icmpNo X0.here hx rfl (hb hby d25_12) rfl (XT.ii_ge_f (by decide)) ?_
    refine XS.aloadN X0.here hx rfl (hb hby d25_15) rfl rfl ?_
    refine XS.iloadN X0.here hx rfl (hb hby d25_16) rfl ?_
    exact kt
  obtain ⟨c1315, Ar1315, q1315, S1315, M1315, H1315, G1315⟩ := id Fi0
  have i1315 : ¬ ((1 : Int32) < 0 ∨ c1315.slots.size ≤ ((1 : Int32)).toNatClampNeg) := inb_of S1315 ⟨by decide, by decide⟩
  have t1315 : c1315.slots[((1 : Int32)).toNatClampNeg]? = some (.int c1) := Has.at H1315 i1315 rfl
  have pre1318 : ∀ t, Steps p.tables e below (s₁.setTop (mkF m 20 #[rv t1114, rv t1156, iv (1 : Int32)] [(.int (1 : Int32)), (.ref t1156), (.int c1)])) t → Steps p.tables e below (s₁.setTop (entryFrame m #[(.ref t1114), (.ref t1156)] 3)) t := fun t kt => by
    refine pre1316 _ ?_
    show Steps p.tables e below (s₁.setTop (mkF m 17 #[rv t1114, rv t1156, iv (1 : Int32)] [(.int (1 : Int32)), (.ref t1114)])) _
    refine X0.baloadBytes hx (j := (1 : Int32)) (v := (.int c1)) (by rw [e0]; exact Ar1315.1) (State.isArrayOf_alike hZ.alike Ar1315.2.1) Ar1315.2.2 i1315 t1315 (g := (mkF m 17 #[rv t1114, rv t1156, iv (1 : Int32)] [(.int (1 : Int32)), (.ref t1114)])) rfl rfl (hb hby d25_17) _ ?_
    refine XS.aloadN X0.here hx rfl (hb hby d25_18) rfl rfl ?_
    refine XS.iloadN X0.here hx rfl (hb hby d25_19) rfl ?_
    exact kt
  obtain ⟨c1317, Ar1317, q1317, S1317, M1317, H1317, G1317⟩ := id Fi1
  have i1317 : ¬ ((1 : Int32) < 0 ∨ c1317.slots.size ≤ ((1 : Int32)).toNatClampNeg) := inb_of S1317 ⟨by decide, by decide⟩
  have t1317 : c1317.slots[((1 : Int32)).toNatClampNeg]? = some (.int d1) := Has.at H1317 i1317 rfl
  have pre1319 : ∀ t, Steps p.tables e below (s₁.setTop (mkF m 25 #[rv t1114, rv t1156, iv (1 : Int32)] [(.int (0 : Int32))])) t → Steps p.tables e below (s₁.setTop (entryFrame m #[(.ref t1114), (.ref t1156)] 3)) t := fun t kt => by
    refine pre1318 _ ?_
    show Steps p.tables e below (s₁.setTop (mkF m 20 #[rv t1114, rv t1156, iv (1 : Int32)] [(.int (1 : Int32)), (.ref t1156), (.int c1)])) _
    refine X0.baloadBytes hx (j := (1 : Int32)) (v := (.int d1)) (by rw [e0]; exact Ar1317.1) (State.isArrayOf_alike hZ.alike Ar1317.2.1) Ar1317.2.2 i1317 t1317 (g := (mkF m 20 #[rv t1114, rv t1156, iv (1 : Int32)] [(.int (1 : Int32)), (.ref t1156), (.int c1)])) rfl rfl (hb hby d25_20) _ ?_
    refine XS.icmpNo X0.here hx rfl (hb hby d25_21) rfl (XT.ii_eq_f (fun q => q1 q.symm)) ?_
    refine XS.iconst X0.here hx rfl (hb hby d25_24) ?_
    exact kt
  obtain ⟨fs, hr, hrun, hended, hW, hsame⟩ := X0.leave (v := some (.int (0 : Int32))) (fun h => by rw [Bd.returns] at h; cases h)
  refine ⟨_, _, pre1319 _ (retN X0 hx (t := .boolean) Bd.returns (by simp) (hb hby d25_25) hr), hrun, hended, _, _, rfl, ?_, ⟨_, rfl⟩, hW, hsame.mono (by decide) (by decide)⟩
  show Q_equals25_8 Z t1114 t1156 c0 c1 k1114 d0 d1 k1156 h0 n0 _ s₁.heap _
  rw [e0]
  exact ⟨rfl, N0, rfl⟩
def Q_equals25_9 (Z : State) (t1114 : Addr) (t1156 : Addr) (c0 : Int32) (c1 : Int32) (k1114 : ClassId) (d0 : Int32) (d1 : Int32) (k1156 : ClassId) (h0 : Heap) (n0 : Nat) (v : Option Value) (h : Heap) (L : List Loc) : Prop := v = some (.int (0 : Int32)) ∧ Fr n0 L ∧ h = h0
set_option maxRecDepth 65536 in
set_option maxHeartbeats 40000000 in
theorem rm_equals25_9 (l : Launch) (Z : State) (a0 : Array Value) (hw : ∀ d ∈ tables_1, d.before a0 Z = true) (ws : List Jvm.Cond) (t1114 : Addr) (t1156 : Addr) (c0 : Int32) (c1 : Int32) (k1114 : ClassId) (d0 : Int32) (d1 : Int32) (k1156 : ClassId) (h0 : Heap) (n0 : Nat) (O0 : Old Z n0 h0) (Fi0 : Arv Z h0 t1114 k1114 .byte (2 : Int32) [(.int c0), (.int c1)] (.int (0 : Int32))) (Fi1 : Arv Z h0 t1156 k1156 .byte (2 : Int32) [(.int d0), (.int d1)] (.int (0 : Int32))) (q0 : ¬ (d0 = c0)) :
    MetFree l (⟨"java/lang/StringLatin1", "equals", "([B[B)Z"⟩ : MethodName) (head1 (Jvm.Cond.code (⟨"java/lang/StringLatin1", "equals", "([B[B)Z"⟩ : MethodName) jdk_43_method_13_code 3 (some .boolean) :: ws) ({ frames := 0, cells := 0, slots := 0, locals := 0 } : Room)) (fun a U => a = #[(.ref t1114), (.ref t1156)] ∧ Z.Warmed39 U.vm ∧ U.heap = h0) (fun _ _ _ _ _ => True) (fun _ U o U' => ∃ v L, o = .returned v ∧ Q_equals25_9 Z t1114 t1156 c0 c1 k1114 d0 d1 k1156 h0 n0 v U'.heap L ∧ FrameEnd U o U' L ({ frames := 0, cells := 0, slots := 0, locals := 0 } : Room).cells ({ frames := 0, cells := 0, slots := 0, locals := 0 } : Room).slots) := by
  refine MetFree.of_bodySF (plainFor_of_name pn_22) hisR ?_
  intro p e s m args below meth c s₁ Bd hml0 hP hK
  have W := fun {d : Jvm.Cond} (i : Nat) (q : tables_1[i]? = some d) => hw d (List.mem_of_getElem? q)
  obtain ⟨rfl, hZ, hh⟩ := hP
  have hx := Bd.exec
  have hby := Bd.bytes
  have hml : c.maxLocals = 3 := hml0
  have hown : s.vm.findClass "java/lang/StringLatin1" = some m.cls := findClass_of_methodNamed Bd.named
  have hnm := (name_of_methodNamed Bd.named Bd.method).1
  have X0 : Stand p l e ({ frames := 0, cells := 0, slots := 0, locals := 0 } : Room) s m #[(.ref t1114), (.ref t1156)] below meth c s₁ [] 0 0 := Stand.of_body Bd
  have e0 : s₁.heap = h0 := by rw [← hh, Bd.state]; rfl
  have N0 := Fr.nil n0
  have pre0 : ∀ t, Steps p.tables e below (s₁.setTop (mkF m 0 #[rv t1114, rv t1156, .unset] [])) t → Steps p.tables e below (s₁.setTop (entryFrame m #[(.ref t1114), (.ref t1156)] 3)) t := fun t k => castTop (ef_23 m t1114 t1156) k
  have K0 : Keep h0 h0 [] := Keep.refl h0 []
  have pre1346 : ∀ t, Steps p.tables e below (s₁.setTop (mkF m 1 #[rv t1114, rv t1156, .unset] [(.ref t1114)])) t → Steps p.tables e below (s₁.setTop (entryFrame m #[(.ref t1114), (.ref t1156)] 3)) t := fun t kt => by
    refine pre0 _ ?_
    show Steps p.tables e below (s₁.setTop (mkF m 0 #[rv t1114, rv t1156, .unset] [])) _
    refine XS.aloadN X0.here hx rfl (hb hby d25_0) rfl rfl ?_
    exact kt
  obtain ⟨c1345, Ar1345, -, S1345, M1345, -, -⟩ := id Fi0
  have pre1348 : ∀ t, Steps p.tables e below (s₁.setTop (mkF m 3 #[rv t1114, rv t1156, .unset] [(.ref t1156), (.int (2 : Int32))])) t → Steps p.tables e below (s₁.setTop (entryFrame m #[(.ref t1114), (.ref t1156)] 3)) t := fun t kt => by
    refine pre1346 _ ?_
    show Steps p.tables e below (s₁.setTop (mkF m 1 #[rv t1114, rv t1156, .unset] [(.ref t1114)])) _
    refine X0.arraylength hx (by rw [e0]; exact Ar1345.1) (State.isArrayOf_alike hZ.alike Ar1345.2.1) (g := (mkF m 1 #[rv t1114, rv t1156, .unset] [(.ref t1114)])) rfl rfl (hb hby d25_1) _ ?_
    rw [len_of S1345 M1345]
    refine XS.aloadN X0.here hx rfl (hb hby d25_2) rfl rfl ?_
    exact kt
  obtain ⟨c1347, Ar1347, -, S1347, M1347, -, -⟩ := id Fi1
  have pre1350 : ∀ t, Steps p.tables e below (s₁.setTop (mkF m 11 #[rv t1114, rv t1156, iv (0 : Int32)] [(.ref t1114), (.int (0 : Int32))])) t → Steps p.tables e below (s₁.setTop (entryFrame m #[(.ref t1114), (.ref t1156)] 3)) t := fun t kt => by
    refine pre1348 _ ?_
    show Steps p.tables e below (s₁.setTop (mkF m 3 #[rv t1114, rv t1156, .unset] [(.ref t1156), (.int (2 : Int32))])) _
    refine X0.arraylength hx (by rw [e0]; exact Ar1347.1) (State.isArrayOf_alike hZ.alike Ar1347.2.1) (g := (mkF m 3 #[rv t1114, rv t1156, .unset] [(.ref t1156), (.int (2 : Int32))])) rfl rfl (hb hby d25_3) _ ?_
    rw [len_of S1347 M1347]
    refine XS.icmpNo X0.here hx rfl (hb hby d25_4) rfl (XT.ii_ne_f (by decide)) ?_
    refine XS.iconst X0.here hx rfl (hb hby d25_7) ?_
    refine XS.istoreN X0.here hx rfl (hb hby d25_8) rfl (l' := #[rv t1114, rv t1156, iv (0 : Int32)]) rfl ?_
    refine XS.iloadN X0.here hx rfl (hb hby d25_9) rfl ?_
    refine XS.aloadN X0.here hx rfl (hb hby d25_10) rfl rfl ?_
    exact kt
  obtain ⟨c1349, Ar1349, -, S1349, M1349, -, -⟩ := id Fi0
  have pre1352 : ∀ t, Steps p.tables e below (s₁.setTop (mkF m 17 #[rv t1114, rv t1156, iv (0 : Int32)] [(.int (0 : Int32)), (.ref t1114)])) t → Steps p.tables e below (s₁.setTop (entryFrame m #[(.ref t1114), (.ref t1156)] 3)) t := fun t kt => by
    refine pre1350 _ ?_
    show Steps p.tables e below (s₁.setTop (mkF m 11 #[rv t1114, rv t1156, iv (0 : Int32)] [(.ref t1114), (.int (0 : Int32))])) _
    refine X0.arraylength hx (by rw [e0]; exact Ar1349.1) (State.isArrayOf_alike hZ.alike Ar1349.2.1) (g := (mkF m 11 #[rv t1114, rv t1156, iv (0 : Int32)] [(.ref t1114), (.int (0 : Int32))])) rfl rfl (hb hby d25_11) _ ?_
    rw [len_of S1349 M1349]
    refine XS.icmpNo X0.here hx rfl (hb hby d25_12) rfl (XT.ii_ge_f (by decide)) ?_
    refine XS.aloadN X0.here hx rfl (hb hby d25_15) rfl rfl ?_
    refine XS.iloadN X0.here hx rfl (hb hby d25_16) rfl ?_
    exact kt
  obtain ⟨c1351, Ar1351, q1351, S1351, M1351, H1351, G1351⟩ := id Fi0
  have i1351 : ¬ ((0 : Int32) < 0 ∨ c1351.slots.size ≤ ((0 : Int32)).toNatClampNeg) := inb_of S1351 ⟨by decide, by decide⟩
  have t1351 : c1351.slots[((0 : Int32)).toNatClampNeg]? = some (.int c0) := Has.at H1351 i1351 rfl
  have pre1354 : ∀ t, Steps p.tables e below (s₁.setTop (mkF m 20 #[rv t1114, rv t1156, iv (0 : Int32)] [(.int (0 : Int32)), (.ref t1156), (.int c0)])) t → Steps p.tables e below (s₁.setTop (entryFrame m #[(.ref t1114), (.ref t1156)] 3)) t := fun t kt => by
    refine pre1352 _ ?_
    show Steps p.tables e below (s₁.setTop (mkF m 17 #[rv t1114, rv t1156, iv (0 : Int32)] [(.int (0 : Int32)), (.ref t1114)])) _
    refine X0.baloadBytes hx (j := (0 : Int32)) (v := (.int c0)) (by rw [e0]; exact Ar1351.1) (State.isArrayOf_alike hZ.alike Ar1351.2.1) Ar1351.2.2 i1351 t1351 (g := (mkF m 17 #[rv t1114, rv t1156, iv (0 : Int32)] [(.int (0 : Int32)), (.ref t1114)])) rfl rfl (hb hby d25_17) _ ?_
    refine XS.aloadN X0.here hx rfl (hb hby d25_18) rfl rfl ?_
    refine XS.iloadN X0.here hx rfl (hb hby d25_19) rfl ?_
    exact kt
  obtain ⟨c1353, Ar1353, q1353, S1353, M1353, H1353, G1353⟩ := id Fi1
  have i1353 : ¬ ((0 : Int32) < 0 ∨ c1353.slots.size ≤ ((0 : Int32)).toNatClampNeg) := inb_of S1353 ⟨by decide, by decide⟩
  have t1353 : c1353.slots[((0 : Int32)).toNatClampNeg]? = some (.int d0) := Has.at H1353 i1353 rfl
  have pre1355 : ∀ t, Steps p.tables e below (s₁.setTop (mkF m 25 #[rv t1114, rv t1156, iv (0 : Int32)] [(.int (0 : Int32))])) t → Steps p.tables e below (s₁.setTop (entryFrame m #[(.ref t1114), (.ref t1156)] 3)) t := fun t kt => by
    refine pre1354 _ ?_
    show Steps p.tables e below (s₁.setTop (mkF m 20 #[rv t1114, rv t1156, iv (0 : Int32)] [(.int (0 : Int32)), (.ref t1156), (.int c0)])) _
    refine X0.baloadBytes hx (j := (0 : Int32)) (v := (.int d0)) (by rw [e0]; exact Ar1353.1) (State.isArrayOf_alike hZ.alike Ar1353.2.1) Ar1353.2.2 i1353 t1353 (g := (mkF m 20 #[rv t1114, rv t1156, iv (0 : Int32)] [(.int (0 : Int32)), (.ref t1156), (.int c0)])) rfl rfl (hb hby d25_20) _ ?_
    refine XS.icmpNo X0.here hx rfl (hb hby d25_21) rfl (XT.ii_eq_f (fun q => q0 q.symm)) ?_
    refine XS.iconst X0.here hx rfl (hb hby d25_24) ?_
    exact kt
  obtain ⟨fs, hr, hrun, hended, hW, hsame⟩ := X0.leave (v := some (.int (0 : Int32))) (fun h => by rw [Bd.returns] at h; cases h)
  refine ⟨_, _, pre1355 _ (retN X0 hx (t := .boolean) Bd.returns (by simp) (hb hby d25_25) hr), hrun, hended, _, _, rfl, ?_, ⟨_, rfl⟩, hW, hsame.mono (by decide) (by decide)⟩
  show Q_equals25_9 Z t1114 t1156 c0 c1 k1114 d0 d1 k1156 h0 n0 _ s₁.heap _
  rw [e0]
  exact ⟨rfl, N0, rfl⟩
def Q_equals (Z : State) (so : Addr) (se : Addr) (cz : Int32) (b1 : Int32) (c0 : Int32) (c1 : Int32) (b2 : Int32) (d0 : Int32) (d1 : Int32) (h0 : Heap) (n0 : Nat) (v : Option Value) (h : Heap) (L : List Loc) : Prop := v = some (.int (own_eqv (own_cs b1 c0 c1) (own_cs b2 d0 d1))) ∧ Fr n0 L ∧ h = h0
set_option maxRecDepth 65536 in
set_option maxHeartbeats 40000000 in
theorem rm_equals (l : Launch) (Z : State) (a0 : Array Value) (hw : ∀ d ∈ tables_1, d.before a0 Z = true) (ws : List Jvm.Cond) (so : Addr) (se : Addr) (cz : Int32) (b1 : Int32) (c0 : Int32) (c1 : Int32) (b2 : Int32) (d0 : Int32) (d1 : Int32) (h0 : Heap) (n0 : Nat) (O0 : Old Z n0 h0) (G0 : Sta Z Z.heap "java/lang/String" "COMPACT_STRINGS" "Z" (.int cz)) (Fi0 : own_str Z h0 so b1 c0 c1) (Fi1 : own_str Z h0 se b2 d0 d1) (qz : ¬ (cz = (0 : Int32))) (qn : ¬ (so = se)) :
    MetFree l (⟨"java/lang/String", "equals", "(Ljava/lang/Object;)Z"⟩ : MethodName) (head1 (Jvm.Cond.code (⟨"java/lang/String", "equals", "(Ljava/lang/Object;)Z"⟩ : MethodName) jdk_42_method_66_code 3 (some .boolean) :: ws) ({ frames := 1, cells := 0, slots := 0, locals := 14 } : Room)) (fun a U => a = #[(.ref so), (.ref se)] ∧ Z.Warmed39 U.vm ∧ U.heap = h0) (fun _ _ _ _ _ => True) (fun _ U o U' => ∃ v L, o = .returned v ∧ Q_equals Z so se cz b1 c0 c1 b2 d0 d1 h0 n0 v U'.heap L ∧ FrameEnd U o U' L ({ frames := 1, cells := 0, slots := 0, locals := 14 } : Room).cells ({ frames := 1, cells := 0, slots := 0, locals := 14 } : Room).slots) := by
  refine MetFree.of_bodySF (plainFor_of_name pn_13) hisR ?_
  intro p e s m args below meth c s₁ Bd hml0 hP hK
  have W := fun {d : Jvm.Cond} (i : Nat) (q : tables_1[i]? = some d) => hw d (List.mem_of_getElem? q)
  obtain ⟨rfl, hZ, hh⟩ := hP
  have hx := Bd.exec
  have hby := Bd.bytes
  have hml : c.maxLocals = 3 := hml0
  have hown : s.vm.findClass "java/lang/String" = some m.cls := findClass_of_methodNamed Bd.named
  have hnm := (name_of_methodNamed Bd.named Bd.method).1
  have X0 : Stand p l e ({ frames := 1, cells := 0, slots := 0, locals := 14 } : Room) s m #[(.ref so), (.ref se)] below meth c s₁ [] 0 0 := Stand.of_body Bd
  have e0 : s₁.heap = h0 := by rw [← hh, Bd.state]; rfl
  have N0 := Fr.nil n0
  have pre0 : ∀ t, Steps p.tables e below (s₁.setTop (mkF m 0 #[rv so, rv se, .unset] [])) t → Steps p.tables e below (s₁.setTop (entryFrame m #[(.ref so), (.ref se)] 3)) t := fun t k => castTop (ef_21 m so se) k
  have K0 : Keep h0 h0 [] := Keep.refl h0 []
  by_cases hb959 : b1 = (0 : Int32)
  · obtain ⟨t960, k960, E960, C960, V960, A960⟩ := own_str_one Fi0 hb959
    by_cases hb961 : b2 = (0 : Int32)
    · obtain ⟨t962, k962, E962, C962, V962, A962⟩ := own_str_one Fi1 hb961
      have pre963 : ∀ t, Steps p.tables e below (s₁.setTop (mkF m 8 #[rv so, rv se, .unset] [(.ref se)])) t → Steps p.tables e below (s₁.setTop (entryFrame m #[(.ref so), (.ref se)] 3)) t := fun t kt => by
        refine pre0 _ ?_
        show Steps p.tables e below (s₁.setTop (mkF m 0 #[rv so, rv se, .unset] [])) _
        refine XS.aloadN X0.here hx rfl (hb hby d24_0) rfl rfl ?_
        refine XS.aloadN X0.here hx rfl (hb hby d24_1) rfl rfl ?_
        refine Jvm.RoadKit.acmp (g := (mkF m 2 #[rv so, rv se, .unset] [(.ref se), (.ref so)])) X0 hx rfl rfl rfl (pc0 := 2) (pc' := 7) (same := false) rfl (hb hby d24_2) rfl (decide_eq_false fun q => qn (Value.ref.inj q)) (by decide) (by decide) ?_
        refine XS.aloadN X0.here hx rfl (hb hby d24_7) rfl rfl ?_
        exact kt
      obtain ⟨T964, X964, e964, st964⟩ := instY X0 hx hZ hown (W 134 rfl) e0 (Ins.self E962) (g := (mkF m 8 #[rv so, rv se, .unset] [(.ref se)])) rfl rfl (hb hby d24_8)
      have pre965 : ∀ t, Steps p.tables e below (T964.setTop (mkF m 11 #[rv so, rv se, .unset] [(.int (1 : Int32))])) t → Steps p.tables e below (s₁.setTop (entryFrame m #[(.ref so), (.ref se)] 3)) t := fun t kt => pre963 _ (st964 _ kt)
      have pre966 : ∀ t, Steps p.tables e below (T964.setTop (mkF m 15 #[rv so, rv se, .unset] [(.ref se)])) t → Steps p.tables e below (s₁.setTop (entryFrame m #[(.ref so), (.ref se)] 3)) t := fun t kt => by
        refine pre965 _ ?_
        show Steps p.tables e below (T964.setTop (mkF m 11 #[rv so, rv se, .unset] [(.int (1 : Int32))])) _
        refine XS.ifNo X964.here hx rfl (hb hby d24_11) rfl (XT.i0_eq_f (by decide)) ?_
        refine XS.aloadN X964.here hx rfl (hb hby d24_14) rfl rfl ?_
        exact kt
      obtain ⟨T967, X967, e967, st967⟩ := castY X964 hx hZ hown (W 134 rfl) e964 (Ins.self E962) (g := (mkF m 15 #[rv so, rv se, .unset] [(.ref se)])) rfl rfl (hb hby d24_15)
      have pre968 : ∀ t, Steps p.tables e below (T967.setTop (mkF m 18 #[rv so, rv se, .unset] [(.ref se)])) t → Steps p.tables e below (s₁.setTop (entryFrame m #[(.ref so), (.ref se)] 3)) t := fun t kt => pre966 _ (st967 _ kt)
      have pre969 : ∀ t, Steps p.tables e below (T967.setTop (mkF m 19 #[rv so, rv se, rv se] [])) t → Steps p.tables e below (s₁.setTop (entryFrame m #[(.ref so), (.ref se)] 3)) t := fun t kt => by
        refine pre968 _ ?_
        show Steps p.tables e below (T967.setTop (mkF m 18 #[rv so, rv se, .unset] [(.ref se)])) _
        refine XS.astoreN X967.here hx rfl (hb hby d24_18) rfl rfl (l' := #[rv so, rv se, rv se]) rfl ?_
        exact kt
      obtain ⟨T970, X970, e970, st970⟩ := getS2 X967 hx hZ hown (host := "") (Or.inl (W 21 rfl)) Via.refl e967 (G0.ext O0.2) (g := (mkF m 19 #[rv so, rv se, rv se] [])) rfl (hb hby d24_19)
      have pre971 : ∀ t, Steps p.tables e below (T970.setTop (mkF m 22 #[rv so, rv se, rv se] [(.int cz)])) t → Steps p.tables e below (s₁.setTop (entryFrame m #[(.ref so), (.ref se)] 3)) t := fun t kt => pre969 _ (st970 _ kt)
      have pre972 : ∀ t, Steps p.tables e below (T970.setTop (mkF m 26 #[rv so, rv se, rv se] [(.ref so)])) t → Steps p.tables e below (s₁.setTop (entryFrame m #[(.ref so), (.ref se)] 3)) t := fun t kt => by
        refine pre971 _ ?_
        show Steps p.tables e below (T970.setTop (mkF m 22 #[rv so, rv se, rv se] [(.int cz)])) _
        refine XS.ifNo X970.here hx rfl (hb hby d24_22) rfl (XT.i0_eq_f qz) ?_
        refine XS.aloadN X970.here hx rfl (hb hby d24_25) rfl rfl ?_
        exact kt
      obtain ⟨T973, X973, e973, st973⟩ := getF X970 hx hZ hown (host := "") (Or.inl (W 33 rfl)) Via.refl e970 C960 (g := (mkF m 26 #[rv so, rv se, rv se] [(.ref so)])) rfl rfl (hb hby d24_26)
      have pre974 : ∀ t, Steps p.tables e below (T973.setTop (mkF m 29 #[rv so, rv se, rv se] [(.int (0 : Int32))])) t → Steps p.tables e below (s₁.setTop (entryFrame m #[(.ref so), (.ref se)] 3)) t := fun t kt => pre972 _ (st973 _ kt)
      have pre975 : ∀ t, Steps p.tables e below (T973.setTop (mkF m 30 #[rv so, rv se, rv se] [(.ref se), (.int (0 : Int32))])) t → Steps p.tables e below (s₁.setTop (entryFrame m #[(.ref so), (.ref se)] 3)) t := fun t kt => by
        refine pre974 _ ?_
        show Steps p.tables e below (T973.setTop (mkF m 29 #[rv so, rv se, rv se] [(.int (0 : Int32))])) _
        refine XS.aloadN X973.here hx rfl (hb hby d24_29) rfl rfl ?_
        exact kt
      obtain ⟨T976, X976, e976, st976⟩ := getF X973 hx hZ hown (host := "") (Or.inl (W 33 rfl)) Via.refl e973 C962 (g := (mkF m 30 #[rv so, rv se, rv se] [(.ref se), (.int (0 : Int32))])) rfl rfl (hb hby d24_30)
      have pre977 : ∀ t, Steps p.tables e below (T976.setTop (mkF m 33 #[rv so, rv se, rv se] [(.int (0 : Int32)), (.int (0 : Int32))])) t → Steps p.tables e below (s₁.setTop (entryFrame m #[(.ref so), (.ref se)] 3)) t := fun t kt => pre975 _ (st976 _ kt)
      have pre978 : ∀ t, Steps p.tables e below (T976.setTop (mkF m 37 #[rv so, rv se, rv se] [(.ref so)])) t → Steps p.tables e below (s₁.setTop (entryFrame m #[(.ref so), (.ref se)] 3)) t := fun t kt => by
        refine pre977 _ ?_
        show Steps p.tables e below (T976.setTop (mkF m 33 #[rv so, rv se, rv se] [(.int (0 : Int32)), (.int (0 : Int32))])) _
        refine XS.icmpNo X976.here hx rfl (hb hby d24_33) rfl (XT.ii_ne_f (by decide)) ?_
        refine XS.aloadN X976.here hx rfl (hb hby d24_36) rfl rfl ?_
        exact kt
      obtain ⟨T979, X979, e979, st979⟩ := getF X976 hx hZ hown (host := "") (Or.inl (W 35 rfl)) Via.refl e976 V960 (g := (mkF m 37 #[rv so, rv se, rv se] [(.ref so)])) rfl rfl (hb hby d24_37)
      have pre980 : ∀ t, Steps p.tables e below (T979.setTop (mkF m 40 #[rv so, rv se, rv se] [(.ref t960)])) t → Steps p.tables e below (s₁.setTop (entryFrame m #[(.ref so), (.ref se)] 3)) t := fun t kt => pre978 _ (st979 _ kt)
      have pre981 : ∀ t, Steps p.tables e below (T979.setTop (mkF m 41 #[rv so, rv se, rv se] [(.ref se), (.ref t960)])) t → Steps p.tables e below (s₁.setTop (entryFrame m #[(.ref so), (.ref se)] 3)) t := fun t kt => by
        refine pre980 _ ?_
        show Steps p.tables e below (T979.setTop (mkF m 40 #[rv so, rv se, rv se] [(.ref t960)])) _
        refine XS.aloadN X979.here hx rfl (hb hby d24_40) rfl rfl ?_
        exact kt
      obtain ⟨T982, X982, e982, st982⟩ := getF X979 hx hZ hown (host := "") (Or.inl (W 35 rfl)) Via.refl e979 V962 (g := (mkF m 41 #[rv so, rv se, rv se] [(.ref se), (.ref t960)])) rfl rfl (hb hby d24_41)
      have pre983 : ∀ t, Steps p.tables e below (T982.setTop (mkF m 44 #[rv so, rv se, rv se] [(.ref t962), (.ref t960)])) t → Steps p.tables e below (s₁.setTop (entryFrame m #[(.ref so), (.ref se)] 3)) t := fun t kt => pre981 _ (st982 _ kt)
      by_cases hc995 : c0 = d0
      · obtain ⟨_, _, ⟨T996, L996, k996, n996⟩, -, X996, ⟨Lc996, hQ996, l996, y996, z996⟩, st996⟩ := Jvm.LawKit.callS X982 hx (y := (⟨"java/lang/StringLatin1", "equals", "([B[B)Z"⟩ : MethodName)) hown (mvT hZ (W 135 rfl)) (mvT hZ (W 136 rfl)) (mvT hZ (W 137 rfl)) (mvT hZ (W 138 rfl)) (by decide) (backOf (W := 0) (rm_equals25_1 l Z a0 hw [] t960 t962 c0 k960 d0 k962 h0 n0 O0 A960 A962 hc995.symm) hZ (W 138 rfl) (W 137 rfl) (by decide) (by decide)) (g := (mkF m 44 #[rv so, rv se, rv se] [(.ref t962), (.ref t960)])) rfl (by rw [hml]; rfl) (argsL := [(.ref t960), (.ref t962)]) (rest := []) (lenOf pd_24 rfl) rfl (by show 2 * 0 + _ ≤ _; exact Nat.le_of_eq rfl) (hb hby d24_44) (fun _ _ => ⟨rfl, e982, (by decide : 0 + 0 ≤ _), (by decide : 0 + 0 ≤ _)⟩)
        dsimp only [Pt.U, Pt.locs, Pt.cells, Pt.slots] at X996 l996 y996 z996 st996 hQ996
        subst l996 y996 z996
        obtain ⟨rfl, M996, e996⟩ := hQ996
        have N996 := Fr.app N0 M996
        have pre1036 : ∀ t, Steps p.tables e below (T996.setTop (mkF m 47 #[rv so, rv se, rv se] [(.int (1 : Int32))])) t → Steps p.tables e below (s₁.setTop (entryFrame m #[(.ref so), (.ref se)] 3)) t := fun t kt => pre983 _ (st996 _ kt)
        have pre1037 : ∀ t, Steps p.tables e below (T996.setTop (mkF m 55 #[rv so, rv se, rv se] [(.int (1 : Int32))])) t → Steps p.tables e below (s₁.setTop (entryFrame m #[(.ref so), (.ref se)] 3)) t := fun t kt => by
          refine pre1036 _ ?_
          show Steps p.tables e below (T996.setTop (mkF m 47 #[rv so, rv se, rv se] [(.int (1 : Int32))])) _
          refine XS.ifNo X996.here hx rfl (hb hby d24_47) rfl (XT.i0_eq_f (by decide)) ?_
          refine XS.iconst X996.here hx rfl (hb hby d24_50) ?_
          refine XS.goto X996.here hx rfl (pc0 := 51) (pc' := 55) rfl (hb hby d24_51) (by decide) (by decide) ?_
          exact kt
        -- returns (.int (1 : Int32)), wanted (.int (own_eqv (own_cs b1 c0 c1) (own_cs b2 d0 d1)))
        obtain ⟨fs, hr, hrun, hended, hW, hsame⟩ := X996.leave (v := some (.int (1 : Int32))) (fun h => by rw [Bd.returns] at h; cases h)
        refine ⟨_, _, pre1037 _ (retN X996 hx (t := .boolean) Bd.returns (by simp) (hb hby d24_55) hr), hrun, hended, _, _, rfl, ?_, ⟨_, rfl⟩, hW, hsame.mono (by decide) (by decide)⟩
        show Q_equals Z so se cz b1 c0 c1 b2 d0 d1 h0 n0 _ T996.heap _
        rw [e996]
        exact ⟨(congrArg (fun z => some (Value.int z)) (by simp [own_eqv, own_cs, hb959, hb961, hc995])), N996, rfl⟩
      · obtain ⟨_, _, ⟨T1038, L1038, k1038, n1038⟩, -, X1038, ⟨Lc1038, hQ1038, l1038, y1038, z1038⟩, st1038⟩ := Jvm.LawKit.callS X982 hx (y := (⟨"java/lang/StringLatin1", "equals", "([B[B)Z"⟩ : MethodName)) hown (mvT hZ (W 135 rfl)) (mvT hZ (W 136 rfl)) (mvT hZ (W 137 rfl)) (mvT hZ (W 138 rfl)) (by decide) (backOf (W := 0) (rm_equals25_2 l Z a0 hw [] t960 t962 c0 k960 d0 k962 h0 n0 O0 A960 A962 (fun q => hc995 q.symm)) hZ (W 138 rfl) (W 137 rfl) (by decide) (by decide)) (g := (mkF m 44 #[rv so, rv se, rv se] [(.ref t962), (.ref t960)])) rfl (by rw [hml]; rfl) (argsL := [(.ref t960), (.ref t962)]) (rest := []) (lenOf pd_24 rfl) rfl (by show 2 * 0 + _ ≤ _; exact Nat.le_of_eq rfl) (hb hby d24_44) (fun _ _ => ⟨rfl, e982, (by decide : 0 + 0 ≤ _), (by decide : 0 + 0 ≤ _)⟩)
        dsimp only [Pt.U, Pt.locs, Pt.cells, Pt.slots] at X1038 l1038 y1038 z1038 st1038 hQ1038
        subst l1038 y1038 z1038
        obtain ⟨rfl, M1038, e1038⟩ := hQ1038
        have N1038 := Fr.app N0 M1038
        have pre1072 : ∀ t, Steps p.tables e below (T1038.setTop (mkF m 47 #[rv so, rv se, rv se] [(.int (0 : Int32))])) t → Steps p.tables e below (s₁.setTop (entryFrame m #[(.ref so), (.ref se)] 3)) t := fun t kt => pre983 _ (st1038 _ kt)
        have pre1073 : ∀ t, Steps p.tables e below (T1038.setTop (mkF m 55 #[rv so, rv se, rv se] [(.int (0 : Int32))])) t → Steps p.tables e below (s₁.setTop (entryFrame m #[(.ref so), (.ref se)] 3)) t := fun t kt => by
          refine pre1072 _ ?_
          show Steps p.tables e below (T1038.setTop (mkF m 47 #[rv so, rv se, rv se] [(.int (0 : Int32))])) _
          refine XS.ifYes X1038.here hx rfl (pc0 := 47) (pc' := 54) rfl (hb hby d24_47) rfl (XT.i0_eq_t (by decide)) (by decide) (by decide) ?_
          refine XS.iconst X1038.here hx rfl (hb hby d24_54) ?_
          exact kt
        -- returns (.int (0 : Int32)), wanted (.int (own_eqv (own_cs b1 c0 c1) (own_cs b2 d0 d1)))
        obtain ⟨fs, hr, hrun, hended, hW, hsame⟩ := X1038.leave (v := some (.int (0 : Int32))) (fun h => by rw [Bd.returns] at h; cases h)
        refine ⟨_, _, pre1073 _ (retN X1038 hx (t := .boolean) Bd.returns (by simp) (hb hby d24_55) hr), hrun, hended, _, _, rfl, ?_, ⟨_, rfl⟩, hW, hsame.mono (by decide) (by decide)⟩
        show Q_equals Z so se cz b1 c0 c1 b2 d0 d1 h0 n0 _ T1038.heap _
        rw [e1038]
        exact ⟨(congrArg (fun z => some (Value.int z)) (by simp [own_eqv, own_cs, hb959, hb961, hc995])), N1038, rfl⟩
    · obtain ⟨t1074, k1074, E1074, C1074, V1074, A1074⟩ := own_str_two Fi1 hb961
      have pre1075 : ∀ t, Steps p.tables e below (s₁.setTop (mkF m 8 #[rv so, rv se, .unset] [(.ref se)])) t → Steps p.tables e below (s₁.setTop (entryFrame m #[(.ref so), (.ref se)] 3)) t := fun t kt => by
        refine pre0 _ ?_
        show Steps p.tables e below (s₁.setTop (mkF m 0 #[rv so, rv se, .unset] [])) _
        refine XS.aloadN X0.here hx rfl (hb hby d24_0) rfl rfl ?_
        refine XS.aloadN X0.here hx rfl (hb hby d24_1) rfl rfl ?_
        refine Jvm.RoadKit.acmp (g := (mkF m 2 #[rv so, rv se, .unset] [(.ref se), (.ref so)])) X0 hx rfl rfl rfl (pc0 := 2) (pc' := 7) (same := false) rfl (hb hby d24_2) rfl (decide_eq_false fun q => qn (Value.ref.inj q)) (by decide) (by decide) ?_
        refine XS.aloadN X0.here hx rfl (hb hby d24_7) rfl rfl ?_
        exact kt
      obtain ⟨T1076, X1076, e1076, st1076⟩ := instY X0 hx hZ hown (W 134 rfl) e0 (Ins.self E1074) (g := (mkF m 8 #[rv so, rv se, .unset] [(.ref se)])) rfl rfl (hb hby d24_8)
      have pre1077 : ∀ t, Steps p.tables e below (T1076.setTop (mkF m 11 #[rv so, rv se, .unset] [(.int (1 : Int32))])) t → Steps p.tables e below (s₁.setTop (entryFrame m #[(.ref so), (.ref se)] 3)) t := fun t kt => pre1075 _ (st1076 _ kt)
      have pre1078 : ∀ t, Steps p.tables e below (T1076.setTop (mkF m 15 #[rv so, rv se, .unset] [(.ref se)])) t → Steps p.tables e below (s₁.setTop (entryFrame m #[(.ref so), (.ref se)] 3)) t := fun t kt => by
        refine pre1077 _ ?_
        show Steps p.tables e below (T1076.setTop (mkF m 11 #[rv so, rv se, .unset] [(.int (1 : Int32))])) _
        refine XS.ifNo X1076.here hx rfl (hb hby d24_11) rfl (XT.i0_eq_f (by decide)) ?_
        refine XS.aloadN X1076.here hx rfl (hb hby d24_14) rfl rfl ?_
        exact kt
      obtain ⟨T1079, X1079, e1079, st1079⟩ := castY X1076 hx hZ hown (W 134 rfl) e1076 (Ins.self E1074) (g := (mkF m 15 #[rv so, rv se, .unset] [(.ref se)])) rfl rfl (hb hby d24_15)
      have pre1080 : ∀ t, Steps p.tables e below (T1079.setTop (mkF m 18 #[rv so, rv se, .unset] [(.ref se)])) t → Steps p.tables e below (s₁.setTop (entryFrame m #[(.ref so), (.ref se)] 3)) t := fun t kt => pre1078 _ (st1079 _ kt)
      have pre1081 : ∀ t, Steps p.tables e below (T1079.setTop (mkF m 19 #[rv so, rv se, rv se] [])) t → Steps p.tables e below (s₁.setTop (entryFrame m #[(.ref so), (.ref se)] 3)) t := fun t kt => by
        refine pre1080 _ ?_
        show Steps p.tables e below (T1079.setTop (mkF m 18 #[rv so, rv se, .unset] [(.ref se)])) _
        refine XS.astoreN X1079.here hx rfl (hb hby d24_18) rfl rfl (l' := #[rv so, rv se, rv se]) rfl ?_
        exact kt
      obtain ⟨T1082, X1082, e1082, st1082⟩ := getS2 X1079 hx hZ hown (host := "") (Or.inl (W 21 rfl)) Via.refl e1079 (G0.ext O0.2) (g := (mkF m 19 #[rv so, rv se, rv se] [])) rfl (hb hby d24_19)
      have pre1083 : ∀ t, Steps p.tables e below (T1082.setTop (mkF m 22 #[rv so, rv se, rv se] [(.int cz)])) t → Steps p.tables e below (s₁.setTop (entryFrame m #[(.ref so), (.ref se)] 3)) t := fun t kt => pre1081 _ (st1082 _ kt)
      have pre1084 : ∀ t, Steps p.tables e below (T1082.setTop (mkF m 26 #[rv so, rv se, rv se] [(.ref so)])) t → Steps p.tables e below (s₁.setTop (entryFrame m #[(.ref so), (.ref se)] 3)) t := fun t kt => by
        refine pre1083 _ ?_
        show Steps p.tables e below (T1082.setTop (mkF m 22 #[rv so, rv se, rv se] [(.int cz)])) _
        refine XS.ifNo X1082.here hx rfl (hb hby d24_22) rfl (XT.i0_eq_f qz) ?_
        refine XS.aloadN X1082.here hx rfl (hb hby d24_25) rfl rfl ?_
        exact kt
      obtain ⟨T1085, X1085, e1085, st1085⟩ := getF X1082 hx hZ hown (host := "") (Or.inl (W 33 rfl)) Via.refl e1082 C960 (g := (mkF m 26 #[rv so, rv se, rv se] [(.ref so)])) rfl rfl (hb hby d24_26)
      have pre1086 : ∀ t, Steps p.tables e below (T1085.setTop (mkF m 29 #[rv so, rv se, rv se] [(.int (0 : Int32))])) t → Steps p.tables e below (s₁.setTop (entryFrame m #[(.ref so), (.ref se)] 3)) t := fun t kt => pre1084 _ (st1085 _ kt)
      have pre1087 : ∀ t, Steps p.tables e below (T1085.setTop (mkF m 30 #[rv so, rv se, rv se] [(.ref se), (.int (0 : Int32))])) t → Steps p.tables e below (s₁.setTop (entryFrame m #[(.ref so), (.ref se)] 3)) t := fun t kt => by
        refine pre1086 _ ?_
        show Steps p.tables e below (T1085.setTop (mkF m 29 #[rv so, rv se, rv se] [(.int (0 : Int32))])) _
        refine XS.aloadN X1085.here hx rfl (hb hby d24_29) rfl rfl ?_
        exact kt
      obtain ⟨T1088, X1088, e1088, st1088⟩ := getF X1085 hx hZ hown (host := "") (Or.inl (W 33 rfl)) Via.refl e1085 C1074 (g := (mkF m 30 #[rv so, rv se, rv se] [(.ref se), (.int (0 : Int32))])) rfl rfl (hb hby d24_30)
      have pre1089 : ∀ t, Steps p.tables e below (T1088.setTop (mkF m 33 #[rv so, rv se, rv se] [(.int (0 : Int32)), (.int (0 : Int32))])) t → Steps p.tables e below (s₁.setTop (entryFrame m #[(.ref so), (.ref se)] 3)) t := fun t kt => pre1087 _ (st1088 _ kt)
      have pre1090 : ∀ t, Steps p.tables e below (T1088.setTop (mkF m 37 #[rv so, rv se, rv se] [(.ref so)])) t → Steps p.tables e below (s₁.setTop (entryFrame m #[(.ref so), (.ref se)] 3)) t := fun t kt => by
        refine pre1089 _ ?_
        show Steps p.tables e below (T1088.setTop (mkF m 33 #[rv so, rv se, rv se] [(.int (0 : Int32)), (.int (0 : Int32))])) _
        refine XS.icmpNo X1088.here hx rfl (hb hby d24_33) rfl (XT.ii_ne_f (by decide)) ?_
        refine XS.aloadN X1088.here hx rfl (hb hby d24_36) rfl rfl ?_
        exact kt
      obtain ⟨T1091, X1091, e1091, st1091⟩ := getF X1088 hx hZ hown (host := "") (Or.inl (W 35 rfl)) Via.refl e1088 V960 (g := (mkF m 37 #[rv so, rv se, rv se] [(.ref so)])) rfl rfl (hb hby d24_37)
      have pre1092 : ∀ t, Steps p.tables e below (T1091.setTop (mkF m 40 #[rv so, rv se, rv se] [(.ref t960)])) t → Steps p.tables e below (s₁.setTop (entryFrame m #[(.ref so), (.ref se)] 3)) t := fun t kt => pre1090 _ (st1091 _ kt)
      have pre1093 : ∀ t, Steps p.tables e below (T1091.setTop (mkF m 41 #[rv so, rv se, rv se] [(.ref se), (.ref t960)])) t → Steps p.tables e below (s₁.setTop (entryFrame m #[(.ref so), (.ref se)] 3)) t := fun t kt => by
        refine pre1092 _ ?_
        show Steps p.tables e below (T1091.setTop (mkF m 40 #[rv so, rv se, rv se] [(.ref t960)])) _
        refine XS.aloadN X1091.here hx rfl (hb hby d24_40) rfl rfl ?_
        exact kt
      obtain ⟨T1094, X1094, e1094, st1094⟩ := getF X1091 hx hZ hown (host := "") (Or.inl (W 35 rfl)) Via.refl e1091 V1074 (g := (mkF m 41 #[rv so, rv se, rv se] [(.ref se), (.ref t960)])) rfl rfl (hb hby d24_41)
      have pre1095 : ∀ t, Steps p.tables e below (T1094.setTop (mkF m 44 #[rv so, rv se, rv se] [(.ref t1074), (.ref t960)])) t → Steps p.tables e below (s₁.setTop (entryFrame m #[(.ref so), (.ref se)] 3)) t := fun t kt => pre1093 _ (st1094 _ kt)
      obtain ⟨_, _, ⟨T1096, L1096, k1096, n1096⟩, -, X1096, ⟨Lc1096, hQ1096, l1096, y1096, z1096⟩, st1096⟩ := Jvm.LawKit.callS X1094 hx (y := (⟨"java/lang/StringLatin1", "equals", "([B[B)Z"⟩ : MethodName)) hown (mvT hZ (W 135 rfl)) (mvT hZ (W 136 rfl)) (mvT hZ (W 137 rfl)) (mvT hZ (W 138 rfl)) (by decide) (backOf (W := 0) (rm_equals25_3 l Z a0 hw [] t960 t1074 c0 k960 d0 d1 k1074 h0 n0 O0 A960 A1074) hZ (W 138 rfl) (W 137 rfl) (by decide) (by decide)) (g := (mkF m 44 #[rv so, rv se, rv se] [(.ref t1074), (.ref t960)])) rfl (by rw [hml]; rfl) (argsL := [(.ref t960), (.ref t1074)]) (rest := []) (lenOf pd_24 rfl) rfl (by show 2 * 0 + _ ≤ _; exact Nat.le_of_eq rfl) (hb hby d24_44) (fun _ _ => ⟨rfl, e1094, (by decide : 0 + 0 ≤ _), (by decide : 0 + 0 ≤ _)⟩)
      dsimp only [Pt.U, Pt.locs, Pt.cells, Pt.slots] at X1096 l1096 y1096 z1096 st1096 hQ1096
      subst l1096 y1096 z1096
      obtain ⟨rfl, M1096, e1096⟩ := hQ1096
      have N1096 := Fr.app N0 M1096
      have pre1112 : ∀ t, Steps p.tables e below (T1096.setTop (mkF m 47 #[rv so, rv se, rv se] [(.int (0 : Int32))])) t → Steps p.tables e below (s₁.setTop (entryFrame m #[(.ref so), (.ref se)] 3)) t := fun t kt => pre1095 _ (st1096 _ kt)
      have pre1113 : ∀ t, Steps p.tables e below (T1096.setTop (mkF m 55 #[rv so, rv se, rv se] [(.int (0 : Int32))])) t → Steps p.tables e below (s₁.setTop (entryFrame m #[(.ref so), (.ref se)] 3)) t := fun t kt => by
        refine pre1112 _ ?_
        show Steps p.tables e below (T1096.setTop (mkF m 47 #[rv so, rv se, rv se] [(.int (0 : Int32))])) _
        refine XS.ifYes X1096.here hx rfl (pc0 := 47) (pc' := 54) rfl (hb hby d24_47) rfl (XT.i0_eq_t (by decide)) (by decide) (by decide) ?_
        refine XS.iconst X1096.here hx rfl (hb hby d24_54) ?_
        exact kt
      -- returns (.int (0 : Int32)), wanted (.int (own_eqv (own_cs b1 c0 c1) (own_cs b2 d0 d1)))
      obtain ⟨fs, hr, hrun, hended, hW, hsame⟩ := X1096.leave (v := some (.int (0 : Int32))) (fun h => by rw [Bd.returns] at h; cases h)
      refine ⟨_, _, pre1113 _ (retN X1096 hx (t := .boolean) Bd.returns (by simp) (hb hby d24_55) hr), hrun, hended, _, _, rfl, ?_, ⟨_, rfl⟩, hW, hsame.mono (by decide) (by decide)⟩
      show Q_equals Z so se cz b1 c0 c1 b2 d0 d1 h0 n0 _ T1096.heap _
      rw [e1096]
      exact ⟨(congrArg (fun z => some (Value.int z)) (by simp [own_eqv, own_cs, hb959, hb961])), N1096, rfl⟩
  · obtain ⟨t1114, k1114, E1114, C1114, V1114, A1114⟩ := own_str_two Fi0 hb959
    by_cases hb1115 : b2 = (0 : Int32)
    · obtain ⟨t1116, k1116, E1116, C1116, V1116, A1116⟩ := own_str_one Fi1 hb1115
      have pre1117 : ∀ t, Steps p.tables e below (s₁.setTop (mkF m 8 #[rv so, rv se, .unset] [(.ref se)])) t → Steps p.tables e below (s₁.setTop (entryFrame m #[(.ref so), (.ref se)] 3)) t := fun t kt => by
        refine pre0 _ ?_
        show Steps p.tables e below (s₁.setTop (mkF m 0 #[rv so, rv se, .unset] [])) _
        refine XS.aloadN X0.here hx rfl (hb hby d24_0) rfl rfl ?_
        refine XS.aloadN X0.here hx rfl (hb hby d24_1) rfl rfl ?_
        refine Jvm.RoadKit.acmp (g := (mkF m 2 #[rv so, rv se, .unset] [(.ref se), (.ref so)])) X0 hx rfl rfl rfl (pc0 := 2) (pc' := 7) (same := false) rfl (hb hby d24_2) rfl (decide_eq_false fun q => qn (Value.ref.inj q)) (by decide) (by decide) ?_
        refine XS.aloadN X0.here hx rfl (hb hby d24_7) rfl rfl ?_
        exact kt
      obtain ⟨T1118, X1118, e1118, st1118⟩ := instY X0 hx hZ hown (W 134 rfl) e0 (Ins.self E1116) (g := (mkF m 8 #[rv so, rv se, .unset] [(.ref se)])) rfl rfl (hb hby d24_8)
      have pre1119 : ∀ t, Steps p.tables e below (T1118.setTop (mkF m 11 #[rv so, rv se, .unset] [(.int (1 : Int32))])) t → Steps p.tables e below (s₁.setTop (entryFrame m #[(.ref so), (.ref se)] 3)) t := fun t kt => pre1117 _ (st1118 _ kt)
      have pre1120 : ∀ t, Steps p.tables e below (T1118.setTop (mkF m 15 #[rv so, rv se, .unset] [(.ref se)])) t → Steps p.tables e below (s₁.setTop (entryFrame m #[(.ref so), (.ref se)] 3)) t := fun t kt => by
        refine pre1119 _ ?_
        show Steps p.tables e below (T1118.setTop (mkF m 11 #[rv so, rv se, .unset] [(.int (1 : Int32))])) _
        refine XS.ifNo X1118.here hx rfl (hb hby d24_11) rfl (XT.i0_eq_f (by decide)) ?_
        refine XS.aloadN X1118.here hx rfl (hb hby d24_14) rfl rfl ?_
        exact kt
      obtain ⟨T1121, X1121, e1121, st1121⟩ := castY X1118 hx hZ hown (W 134 rfl) e1118 (Ins.self E1116) (g := (mkF m 15 #[rv so, rv se, .unset] [(.ref se)])) rfl rfl (hb hby d24_15)
      have pre1122 : ∀ t, Steps p.tables e below (T1121.setTop (mkF m 18 #[rv so, rv se, .unset] [(.ref se)])) t → Steps p.tables e below (s₁.setTop (entryFrame m #[(.ref so), (.ref se)] 3)) t := fun t kt => pre1120 _ (st1121 _ kt)
      have pre1123 : ∀ t, Steps p.tables e below (T1121.setTop (mkF m 19 #[rv so, rv se, rv se] [])) t → Steps p.tables e below (s₁.setTop (entryFrame m #[(.ref so), (.ref se)] 3)) t := fun t kt => by
        refine pre1122 _ ?_
        show Steps p.tables e below (T1121.setTop (mkF m 18 #[rv so, rv se, .unset] [(.ref se)])) _
        refine XS.astoreN X1121.here hx rfl (hb hby d24_18) rfl rfl (l' := #[rv so, rv se, rv se]) rfl ?_
        exact kt
      obtain ⟨T1124, X1124, e1124, st1124⟩ := getS2 X1121 hx hZ hown (host := "") (Or.inl (W 21 rfl)) Via.refl e1121 (G0.ext O0.2) (g := (mkF m 19 #[rv so, rv se, rv se] [])) rfl (hb hby d24_19)
      have pre1125 : ∀ t, Steps p.tables e below (T1124.setTop (mkF m 22 #[rv so, rv se, rv se] [(.int cz)])) t → Steps p.tables e below (s₁.setTop (entryFrame m #[(.ref so), (.ref se)] 3)) t := fun t kt => pre1123 _ (st1124 _ kt)
      have pre1126 : ∀ t, Steps p.tables e below (T1124.setTop (mkF m 26 #[rv so, rv se, rv se] [(.ref so)])) t → Steps p.tables e below (s₁.setTop (entryFrame m #[(.ref so), (.ref se)] 3)) t := fun t kt => by
        refine pre1125 _ ?_
        show Steps p.tables e below (T1124.setTop (mkF m 22 #[rv so, rv se, rv se] [(.int cz)])) _
        refine XS.ifNo X1124.here hx rfl (hb hby d24_22) rfl (XT.i0_eq_f qz) ?_
        refine XS.aloadN X1124.here hx rfl (hb hby d24_25) rfl rfl ?_
        exact kt
      obtain ⟨T1127, X1127, e1127, st1127⟩ := getF X1124 hx hZ hown (host := "") (Or.inl (W 33 rfl)) Via.refl e1124 C1114 (g := (mkF m 26 #[rv so, rv se, rv se] [(.ref so)])) rfl rfl (hb hby d24_26)
      have pre1128 : ∀ t, Steps p.tables e below (T1127.setTop (mkF m 29 #[rv so, rv se, rv se] [(.int (0 : Int32))])) t → Steps p.tables e below (s₁.setTop (entryFrame m #[(.ref so), (.ref se)] 3)) t := fun t kt => pre1126 _ (st1127 _ kt)
      have pre1129 : ∀ t, Steps p.tables e below (T1127.setTop (mkF m 30 #[rv so, rv se, rv se] [(.ref se), (.int (0 : Int32))])) t → Steps p.tables e below (s₁.setTop (entryFrame m #[(.ref so), (.ref se)] 3)) t := fun t kt => by
        refine pre1128 _ ?_
        show Steps p.tables e below (T1127.setTop (mkF m 29 #[rv so, rv se, rv se] [(.int (0 : Int32))])) _
        refine XS.aloadN X1127.here hx rfl (hb hby d24_29) rfl rfl ?_
        exact kt
      obtain ⟨T1130, X1130, e1130, st1130⟩ := getF X1127 hx hZ hown (host := "") (Or.inl (W 33 rfl)) Via.refl e1127 C1116 (g := (mkF m 30 #[rv so, rv se, rv se] [(.ref se), (.int (0 : Int32))])) rfl rfl (hb hby d24_30)
      have pre1131 : ∀ t, Steps p.tables e below (T1130.setTop (mkF m 33 #[rv so, rv se, rv se] [(.int (0 : Int32)), (.int (0 : Int32))])) t → Steps p.tables e below (s₁.setTop (entryFrame m #[(.ref so), (.ref se)] 3)) t := fun t kt => pre1129 _ (st1130 _ kt)
      have pre1132 : ∀ t, Steps p.tables e below (T1130.setTop (mkF m 37 #[rv so, rv se, rv se] [(.ref so)])) t → Steps p.tables e below (s₁.setTop (entryFrame m #[(.ref so), (.ref se)] 3)) t := fun t kt => by
        refine pre1131 _ ?_
        show Steps p.tables e below (T1130.setTop (mkF m 33 #[rv so, rv se, rv se] [(.int (0 : Int32)), (.int (0 : Int32))])) _
        refine XS.icmpNo X1130.here hx rfl (hb hby d24_33) rfl (XT.ii_ne_f (by decide)) ?_
        refine XS.aloadN X1130.here hx rfl (hb hby d24_36) rfl rfl ?_
        exact kt
      obtain ⟨T1133, X1133, e1133, st1133⟩ := getF X1130 hx hZ hown (host := "") (Or.inl (W 35 rfl)) Via.refl e1130 V1114 (g := (mkF m 37 #[rv so, rv se, rv se] [(.ref so)])) rfl rfl (hb hby d24_37)
      have pre1134 : ∀ t, Steps p.tables e below (T1133.setTop (mkF m 40 #[rv so, rv se, rv se] [(.ref t1114)])) t → Steps p.tables e below (s₁.setTop (entryFrame m #[(.ref so), (.ref se)] 3)) t := fun t kt => pre1132 _ (st1133 _ kt)
      have pre1135 : ∀ t, Steps p.tables e below (T1133.setTop (mkF m 41 #[rv so, rv se, rv se] [(.ref se), (.ref t1114)])) t → Steps p.tables e below (s₁.setTop (entryFrame m #[(.ref so), (.ref se)] 3)) t := fun t kt => by
        refine pre1134 _ ?_
        show Steps p.tables e below (T1133.setTop (mkF m 40 #[rv so, rv se, rv se] [(.ref t1114)])) _
        refine XS.aloadN X1133.here hx rfl (hb hby d24_40) rfl rfl ?_
        exact kt
      obtain ⟨T1136, X1136, e1136, st1136⟩ := getF X1133 hx hZ hown (host := "") (Or.inl (W 35 rfl)) Via.refl e1133 V1116 (g := (mkF m 41 #[rv so, rv se, rv se] [(.ref se), (.ref t1114)])) rfl rfl (hb hby d24_41)
      have pre1137 : ∀ t, Steps p.tables e below (T1136.setTop (mkF m 44 #[rv so, rv se, rv se] [(.ref t1116), (.ref t1114)])) t → Steps p.tables e below (s₁.setTop (entryFrame m #[(.ref so), (.ref se)] 3)) t := fun t kt => pre1135 _ (st1136 _ kt)
      obtain ⟨_, _, ⟨T1138, L1138, k1138, n1138⟩, -, X1138, ⟨Lc1138, hQ1138, l1138, y1138, z1138⟩, st1138⟩ := Jvm.LawKit.callS X1136 hx (y := (⟨"java/lang/StringLatin1", "equals", "([B[B)Z"⟩ : MethodName)) hown (mvT hZ (W 135 rfl)) (mvT hZ (W 136 rfl)) (mvT hZ (W 137 rfl)) (mvT hZ (W 138 rfl)) (by decide) (backOf (W := 0) (rm_equals25_4 l Z a0 hw [] t1114 t1116 c0 c1 k1114 d0 k1116 h0 n0 O0 A1114 A1116) hZ (W 138 rfl) (W 137 rfl) (by decide) (by decide)) (g := (mkF m 44 #[rv so, rv se, rv se] [(.ref t1116), (.ref t1114)])) rfl (by rw [hml]; rfl) (argsL := [(.ref t1114), (.ref t1116)]) (rest := []) (lenOf pd_24 rfl) rfl (by show 2 * 0 + _ ≤ _; exact Nat.le_of_eq rfl) (hb hby d24_44) (fun _ _ => ⟨rfl, e1136, (by decide : 0 + 0 ≤ _), (by decide : 0 + 0 ≤ _)⟩)
      dsimp only [Pt.U, Pt.locs, Pt.cells, Pt.slots] at X1138 l1138 y1138 z1138 st1138 hQ1138
      subst l1138 y1138 z1138
      obtain ⟨rfl, M1138, e1138⟩ := hQ1138
      have N1138 := Fr.app N0 M1138
      have pre1154 : ∀ t, Steps p.tables e below (T1138.setTop (mkF m 47 #[rv so, rv se, rv se] [(.int (0 : Int32))])) t → Steps p.tables e below (s₁.setTop (entryFrame m #[(.ref so), (.ref se)] 3)) t := fun t kt => pre1137 _ (st1138 _ kt)
      have pre1155 : ∀ t, Steps p.tables e below (T1138.setTop (mkF m 55 #[rv so, rv se, rv se] [(.int (0 : Int32))])) t → Steps p.tables e below (s₁.setTop (entryFrame m #[(.ref so), (.ref se)] 3)) t := fun t kt => by
        refine pre1154 _ ?_
        show Steps p.tables e below (T1138.setTop (mkF m 47 #[rv so, rv se, rv se] [(.int (0 : Int32))])) _
        refine XS.ifYes X1138.here hx rfl (pc0 := 47) (pc' := 54) rfl (hb hby d24_47) rfl (XT.i0_eq_t (by decide)) (by decide) (by decide) ?_
        refine XS.iconst X1138.here hx rfl (hb hby d24_54) ?_
        exact kt
      -- returns (.int (0 : Int32)), wanted (.int (own_eqv (own_cs b1 c0 c1) (own_cs b2 d0 d1)))
      obtain ⟨fs, hr, hrun, hended, hW, hsame⟩ := X1138.leave (v := some (.int (0 : Int32))) (fun h => by rw [Bd.returns] at h; cases h)
      refine ⟨_, _, pre1155 _ (retN X1138 hx (t := .boolean) Bd.returns (by simp) (hb hby d24_55) hr), hrun, hended, _, _, rfl, ?_, ⟨_, rfl⟩, hW, hsame.mono (by decide) (by decide)⟩
      show Q_equals Z so se cz b1 c0 c1 b2 d0 d1 h0 n0 _ T1138.heap _
      rw [e1138]
      exact ⟨(congrArg (fun z => some (Value.int z)) (by simp [own_eqv, own_cs, hb959, hb1115])), N1138, rfl⟩
    · obtain ⟨t1156, k1156, E1156, C1156, V1156, A1156⟩ := own_str_two Fi1 hb1115
      have pre1157 : ∀ t, Steps p.tables e below (s₁.setTop (mkF m 8 #[rv so, rv se, .unset] [(.ref se)])) t → Steps p.tables e below (s₁.setTop (entryFrame m #[(.ref so), (.ref se)] 3)) t := fun t kt => by
        refine pre0 _ ?_
        show Steps p.tables e below (s₁.setTop (mkF m 0 #[rv so, rv se, .unset] [])) _
        refine XS.aloadN X0.here hx rfl (hb hby d24_0) rfl rfl ?_
        refine XS.aloadN X0.here hx rfl (hb hby d24_1) rfl rfl ?_
        refine Jvm.RoadKit.acmp (g := (mkF m 2 #[rv so, rv se, .unset] [(.ref se), (.ref so)])) X0 hx rfl rfl rfl (pc0 := 2) (pc' := 7) (same := false) rfl (hb hby d24_2) rfl (decide_eq_false fun q => qn (Value.ref.inj q)) (by decide) (by decide) ?_
        refine XS.aloadN X0.here hx rfl (hb hby d24_7) rfl rfl ?_
        exact kt
      obtain ⟨T1158, X1158, e1158, st1158⟩ := instY X0 hx hZ hown (W 134 rfl) e0 (Ins.self E1156) (g := (mkF m 8 #[rv so, rv se, .unset] [(.ref se)])) rfl rfl (hb hby d24_8)
      have pre1159 : ∀ t, Steps p.tables e below (T1158.setTop (mkF m 11 #[rv so, rv se, .unset] [(.int (1 : Int32))])) t → Steps p.tables e below (s₁.setTop (entryFrame m #[(.ref so), (.ref se)] 3)) t := fun t kt => pre1157 _ (st1158 _ kt)
      have pre1160 : ∀ t, Steps p.tables e below (T1158.setTop (mkF m 15 #[rv so, rv se, .unset] [(.ref se)])) t → Steps p.tables e below (s₁.setTop (entryFrame m #[(.ref so), (.ref se)] 3)) t := fun t kt => by
        refine pre1159 _ ?_
        show Steps p.tables e below (T1158.setTop (mkF m 11 #[rv so, rv se, .unset] [(.int (1 : Int32))])) _
        refine XS.ifNo X1158.here hx rfl (hb hby d24_11) rfl (XT.i0_eq_f (by decide)) ?_
        refine XS.aloadN X1158.here hx rfl (hb hby d24_14) rfl rfl ?_
        exact kt
      obtain ⟨T1161, X1161, e1161, st1161⟩ := castY X1158 hx hZ hown (W 134 rfl) e1158 (Ins.self E1156) (g := (mkF m 15 #[rv so, rv se, .unset] [(.ref se)])) rfl rfl (hb hby d24_15)
      have pre1162 : ∀ t, Steps p.tables e below (T1161.setTop (mkF m 18 #[rv so, rv se, .unset] [(.ref se)])) t → Steps p.tables e below (s₁.setTop (entryFrame m #[(.ref so), (.ref se)] 3)) t := fun t kt => pre1160 _ (st1161 _ kt)
      have pre1163 : ∀ t, Steps p.tables e below (T1161.setTop (mkF m 19 #[rv so, rv se, rv se] [])) t → Steps p.tables e below (s₁.setTop (entryFrame m #[(.ref so), (.ref se)] 3)) t := fun t kt => by
        refine pre1162 _ ?_
        show Steps p.tables e below (T1161.setTop (mkF m 18 #[rv so, rv se, .unset] [(.ref se)])) _
        refine XS.astoreN X1161.here hx rfl (hb hby d24_18) rfl rfl (l' := #[rv so, rv se, rv se]) rfl ?_
        exact kt
      obtain ⟨T1164, X1164, e1164, st1164⟩ := getS2 X1161 hx hZ hown (host := "") (Or.inl (W 21 rfl)) Via.refl e1161 (G0.ext O0.2) (g := (mkF m 19 #[rv so, rv se, rv se] [])) rfl (hb hby d24_19)
      have pre1165 : ∀ t, Steps p.tables e below (T1164.setTop (mkF m 22 #[rv so, rv se, rv se] [(.int cz)])) t → Steps p.tables e below (s₁.setTop (entryFrame m #[(.ref so), (.ref se)] 3)) t := fun t kt => pre1163 _ (st1164 _ kt)
      have pre1166 : ∀ t, Steps p.tables e below (T1164.setTop (mkF m 26 #[rv so, rv se, rv se] [(.ref so)])) t → Steps p.tables e below (s₁.setTop (entryFrame m #[(.ref so), (.ref se)] 3)) t := fun t kt => by
        refine pre1165 _ ?_
        show Steps p.tables e below (T1164.setTop (mkF m 22 #[rv so, rv se, rv se] [(.int cz)])) _
        refine XS.ifNo X1164.here hx rfl (hb hby d24_22) rfl (XT.i0_eq_f qz) ?_
        refine XS.aloadN X1164.here hx rfl (hb hby d24_25) rfl rfl ?_
        exact kt
      obtain ⟨T1167, X1167, e1167, st1167⟩ := getF X1164 hx hZ hown (host := "") (Or.inl (W 33 rfl)) Via.refl e1164 C1114 (g := (mkF m 26 #[rv so, rv se, rv se] [(.ref so)])) rfl rfl (hb hby d24_26)
      have pre1168 : ∀ t, Steps p.tables e below (T1167.setTop (mkF m 29 #[rv so, rv se, rv se] [(.int (0 : Int32))])) t → Steps p.tables e below (s₁.setTop (entryFrame m #[(.ref so), (.ref se)] 3)) t := fun t kt => pre1166 _ (st1167 _ kt)
      have pre1169 : ∀ t, Steps p.tables e below (T1167.setTop (mkF m 30 #[rv so, rv se, rv se] [(.ref se), (.int (0 : Int32))])) t → Steps p.tables e below (s₁.setTop (entryFrame m #[(.ref so), (.ref se)] 3)) t := fun t kt => by
        refine pre1168 _ ?_
        show Steps p.tables e below (T1167.setTop (mkF m 29 #[rv so, rv se, rv se] [(.int (0 : Int32))])) _
        refine XS.aloadN X1167.here hx rfl (hb hby d24_29) rfl rfl ?_
        exact kt
      obtain ⟨T1170, X1170, e1170, st1170⟩ := getF X1167 hx hZ hown (host := "") (Or.inl (W 33 rfl)) Via.refl e1167 C1156 (g := (mkF m 30 #[rv so, rv se, rv se] [(.ref se), (.int (0 : Int32))])) rfl rfl (hb hby d24_30)
      have pre1171 : ∀ t, Steps p.tables e below (T1170.setTop (mkF m 33 #[rv so, rv se, rv se] [(.int (0 : Int32)), (.int (0 : Int32))])) t → Steps p.tables e below (s₁.setTop (entryFrame m #[(.ref so), (.ref se)] 3)) t := fun t kt => pre1169 _ (st1170 _ kt)
      have pre1172 : ∀ t, Steps p.tables e below (T1170.setTop (mkF m 37 #[rv so, rv se, rv se] [(.ref so)])) t → Steps p.tables e below (s₁.setTop (entryFrame m #[(.ref so), (.ref se)] 3)) t := fun t kt => by
        refine pre1171 _ ?_
        show Steps p.tables e below (T1170.setTop (mkF m 33 #[rv so, rv se, rv se] [(.int (0 : Int32)), (.int (0 : Int32))])) _
        refine XS.icmpNo X1170.here hx rfl (hb hby d24_33) rfl (XT.ii_ne_f (by decide)) ?_
        refine XS.aloadN X1170.here hx rfl (hb hby d24_36) rfl rfl ?_
        exact kt
      obtain ⟨T1173, X1173, e1173, st1173⟩ := getF X1170 hx hZ hown (host := "") (Or.inl (W 35 rfl)) Via.refl e1170 V1114 (g := (mkF m 37 #[rv so, rv se, rv se] [(.ref so)])) rfl rfl (hb hby d24_37)
      have pre1174 : ∀ t, Steps p.tables e below (T1173.setTop (mkF m 40 #[rv so, rv se, rv se] [(.ref t1114)])) t → Steps p.tables e below (s₁.setTop (entryFrame m #[(.ref so), (.ref se)] 3)) t := fun t kt => pre1172 _ (st1173 _ kt)
      have pre1175 : ∀ t, Steps p.tables e below (T1173.setTop (mkF m 41 #[rv so, rv se, rv se] [(.ref se), (.ref t1114)])) t → Steps p.tables e below (s₁.setTop (entryFrame m #[(.ref so), (.ref se)] 3)) t := fun t kt => by
        refine pre1174 _ ?_
        show Steps p.tables e below (T1173.setTop (mkF m 40 #[rv so, rv se, rv se] [(.ref t1114)])) _
        refine XS.aloadN X1173.here hx rfl (hb hby d24_40) rfl rfl ?_
        exact kt
      obtain ⟨T1176, X1176, e1176, st1176⟩ := getF X1173 hx hZ hown (host := "") (Or.inl (W 35 rfl)) Via.refl e1173 V1156 (g := (mkF m 41 #[rv so, rv se, rv se] [(.ref se), (.ref t1114)])) rfl rfl (hb hby d24_41)
      have pre1177 : ∀ t, Steps p.tables e below (T1176.setTop (mkF m 44 #[rv so, rv se, rv se] [(.ref t1156), (.ref t1114)])) t → Steps p.tables e below (s₁.setTop (entryFrame m #[(.ref so), (.ref se)] 3)) t := fun t kt => pre1175 _ (st1176 _ kt)
      by_cases hc1189 : c0 = d0
      · by_cases hc1207 : c1 = d1
        · obtain ⟨_, _, ⟨T1208, L1208, k1208, n1208⟩, -, X1208, ⟨Lc1208, hQ1208, l1208, y1208, z1208⟩, st1208⟩ := Jvm.LawKit.callS X1176 hx (y := (⟨"java/lang/StringLatin1", "equals", "([B[B)Z"⟩ : MethodName)) hown (mvT hZ (W 135 rfl)) (mvT hZ (W 136 rfl)) (mvT hZ (W 137 rfl)) (mvT hZ (W 138 rfl)) (by decide) (backOf (W := 0) (rm_equals25_7 l Z a0 hw [] t1114 t1156 c0 c1 k1114 d0 d1 k1156 h0 n0 O0 A1114 A1156 hc1189.symm hc1207.symm) hZ (W 138 rfl) (W 137 rfl) (by decide) (by decide)) (g := (mkF m 44 #[rv so, rv se, rv se] [(.ref t1156), (.ref t1114)])) rfl (by rw [hml]; rfl) (argsL := [(.ref t1114), (.ref t1156)]) (rest := []) (lenOf pd_24 rfl) rfl (by show 2 * 0 + _ ≤ _; exact Nat.le_of_eq rfl) (hb hby d24_44) (fun _ _ => ⟨rfl, e1176, (by decide : 0 + 0 ≤ _), (by decide : 0 + 0 ≤ _)⟩)
          dsimp only [Pt.U, Pt.locs, Pt.cells, Pt.slots] at X1208 l1208 y1208 z1208 st1208 hQ1208
          subst l1208 y1208 z1208
          obtain ⟨rfl, M1208, e1208⟩ := hQ1208
          have N1208 := Fr.app N0 M1208
          have pre1266 : ∀ t, Steps p.tables e below (T1208.setTop (mkF m 47 #[rv so, rv se, rv se] [(.int (1 : Int32))])) t → Steps p.tables e below (s₁.setTop (entryFrame m #[(.ref so), (.ref se)] 3)) t := fun t kt => pre1177 _ (st1208 _ kt)
          have pre1267 : ∀ t, Steps p.tables e below (T1208.setTop (mkF m 55 #[rv so, rv se, rv se] [(.int (1 : Int32))])) t → Steps p.tables e below (s₁.setTop (entryFrame m #[(.ref so), (.ref se)] 3)) t := fun t kt => by
            refine pre1266 _ ?_
            show Steps p.tables e below (T1208.setTop (mkF m 47 #[rv so, rv se, rv se] [(.int (1 : Int32))])) _
            refine XS.ifNo X1208.here hx rfl (hb hby d24_47) rfl (XT.i0_eq_f (by decide)) ?_
            refine XS.iconst X1208.here hx rfl (hb hby d24_50) ?_
            refine XS.goto X1208.here hx rfl (pc0 := 51) (pc' := 55) rfl (hb hby d24_51) (by decide) (by decide) ?_
            exact kt
          -- returns (.int (1 : Int32)), wanted (.int (own_eqv (own_cs b1 c0 c1) (own_cs b2 d0 d1)))
          obtain ⟨fs, hr, hrun, hended, hW, hsame⟩ := X1208.leave (v := some (.int (1 : Int32))) (fun h => by rw [Bd.returns] at h; cases h)
          refine ⟨_, _, pre1267 _ (retN X1208 hx (t := .boolean) Bd.returns (by simp) (hb hby d24_55) hr), hrun, hended, _, _, rfl, ?_, ⟨_, rfl⟩, hW, hsame.mono (by decide) (by decide)⟩
          show Q_equals Z so se cz b1 c0 c1 b2 d0 d1 h0 n0 _ T1208.heap _
          rw [e1208]
          exact ⟨(congrArg (fun z => some (Value.int z)) (by simp [own_eqv, own_cs, hb959, hb1115, hc1189, hc1207])), N1208, rfl⟩
        · obtain ⟨_, _, ⟨T1268, L1268, k1268, n1268⟩, -, X1268, ⟨Lc1268, hQ1268, l1268, y1268, z1268⟩, st1268⟩ := Jvm.LawKit.callS X1176 hx (y := (⟨"java/lang/StringLatin1", "equals", "([B[B)Z"⟩ : MethodName)) hown (mvT hZ (W 135 rfl)) (mvT hZ (W 136 rfl)) (mvT hZ (W 137 rfl)) (mvT hZ (W 138 rfl)) (by decide) (backOf (W := 0) (rm_equals25_8 l Z a0 hw [] t1114 t1156 c0 c1 k1114 d0 d1 k1156 h0 n0 O0 A1114 A1156 hc1189.symm (fun q => hc1207 q.symm)) hZ (W 138 rfl) (W 137 rfl) (by decide) (by decide)) (g := (mkF m 44 #[rv so, rv se, rv se] [(.ref t1156), (.ref t1114)])) rfl (by rw [hml]; rfl) (argsL := [(.ref t1114), (.ref t1156)]) (rest := []) (lenOf pd_24 rfl) rfl (by show 2 * 0 + _ ≤ _; exact Nat.le_of_eq rfl) (hb hby d24_44) (fun _ _ => ⟨rfl, e1176, (by decide : 0 + 0 ≤ _), (by decide : 0 + 0 ≤ _)⟩)
          dsimp only [Pt.U, Pt.locs, Pt.cells, Pt.slots] at X1268 l1268 y1268 z1268 st1268 hQ1268
          subst l1268 y1268 z1268
          obtain ⟨rfl, M1268, e1268⟩ := hQ1268
          have N1268 := Fr.app N0 M1268
          have pre1320 : ∀ t, Steps p.tables e below (T1268.setTop (mkF m 47 #[rv so, rv se, rv se] [(.int (0 : Int32))])) t → Steps p.tables e below (s₁.setTop (entryFrame m #[(.ref so), (.ref se)] 3)) t := fun t kt => pre1177 _ (st1268 _ kt)
          have pre1321 : ∀ t, Steps p.tables e below (T1268.setTop (mkF m 55 #[rv so, rv se, rv se] [(.int (0 : Int32))])) t → Steps p.tables e below (s₁.setTop (entryFrame m #[(.ref so), (.ref se)] 3)) t := fun t kt => by
            refine pre1320 _ ?_
            show Steps p.tables e below (T1268.setTop (mkF m 47 #[rv so, rv se, rv se] [(.int (0 : Int32))])) _
            refine XS.ifYes X1268.here hx rfl (pc0 := 47) (pc' := 54) rfl (hb hby d24_47) rfl (XT.i0_eq_t (by decide)) (by decide) (by decide) ?_
            refine XS.iconst X1268.here hx rfl (hb hby d24_54) ?_
            exact kt
          -- returns (.int (0 : Int32)), wanted (.int (own_eqv (own_cs b1 c0 c1) (own_cs b2 d0 d1)))
          obtain ⟨fs, hr, hrun, hended, hW, hsame⟩ := X1268.leave (v := some (.int (0 : Int32))) (fun h => by rw [Bd.returns] at h; cases h)
          refine ⟨_, _, pre1321 _ (retN X1268 hx (t := .boolean) Bd.returns (by simp) (hb hby d24_55) hr), hrun, hended, _, _, rfl, ?_, ⟨_, rfl⟩, hW, hsame.mono (by decide) (by decide)⟩
          show Q_equals Z so se cz b1 c0 c1 b2 d0 d1 h0 n0 _ T1268.heap _
          rw [e1268]
          exact ⟨(congrArg (fun z => some (Value.int z)) (by simp [own_eqv, own_cs, hb959, hb1115, hc1189, hc1207])), N1268, rfl⟩
      · obtain ⟨_, _, ⟨T1322, L1322, k1322, n1322⟩, -, X1322, ⟨Lc1322, hQ1322, l1322, y1322, z1322⟩, st1322⟩ := Jvm.LawKit.callS X1176 hx (y := (⟨"java/lang/StringLatin1", "equals", "([B[B)Z"⟩ : MethodName)) hown (mvT hZ (W 135 rfl)) (mvT hZ (W 136 rfl)) (mvT hZ (W 137 rfl)) (mvT hZ (W 138 rfl)) (by decide) (backOf (W := 0) (rm_equals25_9 l Z a0 hw [] t1114 t1156 c0 c1 k1114 d0 d1 k1156 h0 n0 O0 A1114 A1156 (fun q => hc1189 q.symm)) hZ (W 138 rfl) (W 137 rfl) (by decide) (by decide)) (g := (mkF m 44 #[rv so, rv se, rv se] [(.ref t1156), (.ref t1114)])) rfl (by rw [hml]; rfl) (argsL := [(.ref t1114), (.ref t1156)]) (rest := []) (lenOf pd_24 rfl) rfl (by show 2 * 0 + _ ≤ _; exact Nat.le_of_eq rfl) (hb hby d24_44) (fun _ _ => ⟨rfl, e1176, (by decide : 0 + 0 ≤ _), (by decide : 0 + 0 ≤ _)⟩)
        dsimp only [Pt.U, Pt.locs, Pt.cells, Pt.slots] at X1322 l1322 y1322 z1322 st1322 hQ1322
        subst l1322 y1322 z1322
        obtain ⟨rfl, M1322, e1322⟩ := hQ1322
        have N1322 := Fr.app N0 M1322
        have pre1356 : ∀ t, Steps p.tables e below (T1322.setTop (mkF m 47 #[rv so, rv se, rv se] [(.int (0 : Int32))])) t → Steps p.tables e below (s₁.setTop (entryFrame m #[(.ref so), (.ref se)] 3)) t := fun t kt => pre1177 _ (st1322 _ kt)
        have pre1357 : ∀ t, Steps p.tables e below (T1322.setTop (mkF m 55 #[rv so, rv se, rv se] [(.int (0 : Int32))])) t → Steps p.tables e below (s₁.setTop (entryFrame m #[(.ref so), (.ref se)] 3)) t := fun t kt => by
          refine pre1356 _ ?_
          show Steps p.tables e below (T1322.setTop (mkF m 47 #[rv so, rv se, rv se] [(.int (0 : Int32))])) _
          refine XS.ifYes X1322.here hx rfl (pc0 := 47) (pc' := 54) rfl (hb hby d24_47) rfl (XT.i0_eq_t (by decide)) (by decide) (by decide) ?_
          refine XS.iconst X1322.here hx rfl (hb hby d24_54) ?_
          exact kt
        -- returns (.int (0 : Int32)), wanted (.int (own_eqv (own_cs b1 c0 c1) (own_cs b2 d0 d1)))
        obtain ⟨fs, hr, hrun, hended, hW, hsame⟩ := X1322.leave (v := some (.int (0 : Int32))) (fun h => by rw [Bd.returns] at h; cases h)
        refine ⟨_, _, pre1357 _ (retN X1322 hx (t := .boolean) Bd.returns (by simp) (hb hby d24_55) hr), hrun, hended, _, _, rfl, ?_, ⟨_, rfl⟩, hW, hsame.mono (by decide) (by decide)⟩
        show Q_equals Z so se cz b1 c0 c1 b2 d0 d1 h0 n0 _ T1322.heap _
        rw [e1322]
        exact ⟨(congrArg (fun z => some (Value.int z)) (by simp [own_eqv, own_cs, hb959, hb1115, hc1189])), N1322, rfl⟩
theorem pn_25 : plainName "com/example/homethread/homethread/cli/ScenarioReport" = true := by first | (simp [plainName, overriddenIn]; done) | decide +kernel
theorem ef_26 (m : MethodId) (x0 : Addr) (x1 : Addr) (x2 : Addr) : entryFrame m #[(.ref x0), (.ref x1), (.ref x2)] 3 = mkF m 0 #[.val (.ref x0), .val (.ref x1), .val (.ref x2)] [] := by first | (simp [entryFrame, mkF, argsToLocals, Value.category]; done) | rfl
theorem d18_0 : decode prog_42_method_3_code 0 = .ok (.aload_n 0, 1) := by decide +kernel
theorem d18_1 : decode prog_42_method_3_code 1 = .ok (.getfield 10, 3) := by decide +kernel
theorem d18_4 : decode prog_42_method_3_code 4 = .ok (.aload_n 2, 1) := by decide +kernel
theorem d18_5 : decode prog_42_method_3_code 5 = .ok (.invokeinterface 30 2, 5) := by decide +kernel
theorem d19_0 : decode jdk_38_method_25_code 0 = .ok (.aload_n 0, 1) := by decide +kernel
theorem d19_1 : decode jdk_38_method_25_code 1 = .ok (.dup, 1) := by decide +kernel
theorem d19_2 : decode jdk_38_method_25_code 2 = .ok (.getfield 63, 3) := by decide +kernel
theorem d19_5 : decode jdk_38_method_25_code 5 = .ok (.iconst 1, 1) := by decide +kernel
theorem d19_6 : decode jdk_38_method_25_code 6 = .ok (.iadd, 1) := by decide +kernel
theorem d19_7 : decode jdk_38_method_25_code 7 = .ok (.putfield 63, 3) := by decide +kernel
theorem d19_10 : decode jdk_38_method_25_code 10 = .ok (.aload_n 0, 1) := by decide +kernel
theorem d19_11 : decode jdk_38_method_25_code 11 = .ok (.aload_n 1, 1) := by decide +kernel
theorem d19_12 : decode jdk_38_method_25_code 12 = .ok (.aload_n 0, 1) := by decide +kernel
theorem d19_13 : decode jdk_38_method_25_code 13 = .ok (.getfield 9, 3) := by decide +kernel
theorem d19_16 : decode jdk_38_method_25_code 16 = .ok (.aload_n 0, 1) := by decide +kernel
theorem d19_17 : decode jdk_38_method_25_code 17 = .ok (.getfield 48, 3) := by decide +kernel
theorem d19_20 : decode jdk_38_method_25_code 20 = .ok (.invokevirtual 131, 3) := by decide +kernel
theorem d20_0 : decode jdk_38_method_24_code 0 = .ok (.iload_n 3, 1) := by decide +kernel
theorem d20_1 : decode jdk_38_method_24_code 1 = .ok (.aload_n 2, 1) := by decide +kernel
theorem d20_2 : decode jdk_38_method_24_code 2 = .ok (.arraylength, 1) := by decide +kernel
theorem d20_3 : decode jdk_38_method_24_code 3 = .ok (.if_icmp .ne 8, 3) := by decide +kernel
theorem d20_6 : decode jdk_38_method_24_code 6 = .ok (.aload_n 0, 1) := by decide +kernel
theorem d20_7 : decode jdk_38_method_24_code 7 = .ok (.invokevirtual 129, 3) := by decide +kernel
theorem d21_0 : decode jdk_38_method_7_code 0 = .ok (.aload_n 0, 1) := by decide +kernel
theorem d21_1 : decode jdk_38_method_7_code 1 = .ok (.aload_n 0, 1) := by decide +kernel
theorem d21_2 : decode jdk_38_method_7_code 2 = .ok (.getfield 48, 3) := by decide +kernel
theorem d21_5 : decode jdk_38_method_7_code 5 = .ok (.iconst 1, 1) := by decide +kernel
theorem d21_6 : decode jdk_38_method_7_code 6 = .ok (.iadd, 1) := by decide +kernel
theorem d21_7 : decode jdk_38_method_7_code 7 = .ok (.invokevirtual 69, 3) := by decide +kernel
theorem d22_0 : decode jdk_38_method_6_code 0 = .ok (.aload_n 0, 1) := by decide +kernel
theorem d22_1 : decode jdk_38_method_6_code 1 = .ok (.getfield 9, 3) := by decide +kernel
theorem d22_4 : decode jdk_38_method_6_code 4 = .ok (.arraylength, 1) := by decide +kernel
theorem d22_5 : decode jdk_38_method_6_code 5 = .ok (.istore_n 2, 1) := by decide +kernel
theorem d22_6 : decode jdk_38_method_6_code 6 = .ok (.iload_n 2, 1) := by decide +kernel
theorem d22_7 : decode jdk_38_method_6_code 7 = .ok (.ifCond .gt 13, 3) := by decide +kernel
theorem d22_10 : decode jdk_38_method_6_code 10 = .ok (.aload_n 0, 1) := by decide +kernel
theorem d22_11 : decode jdk_38_method_6_code 11 = .ok (.getfield 9, 3) := by decide +kernel
theorem d22_14 : decode jdk_38_method_6_code 14 = .ok (.getstatic 39, 3) := by decide +kernel
theorem d22_17 : decode jdk_38_method_6_code 17 = .ok (.if_acmp .eq 28, 3) := by decide +kernel
theorem d22_45 : decode jdk_38_method_6_code 45 = .ok (.aload_n 0, 1) := by decide +kernel
theorem d22_46 : decode jdk_38_method_6_code 46 = .ok (.bipush 10, 2) := by decide +kernel
theorem d22_48 : decode jdk_38_method_6_code 48 = .ok (.iload_n 1, 1) := by decide +kernel
theorem d22_49 : decode jdk_38_method_6_code 49 = .ok (.invokestatic 79, 3) := by decide +kernel
theorem d23_0 : decode jdk_29_method_65_code 0 = .ok (.iload_n 0, 1) := by decide +kernel
theorem d23_1 : decode jdk_29_method_65_code 1 = .ok (.iload_n 1, 1) := by decide +kernel
theorem d23_2 : decode jdk_29_method_65_code 2 = .ok (.if_icmp .lt 7, 3) := by decide +kernel
theorem d23_5 : decode jdk_29_method_65_code 5 = .ok (.iload_n 0, 1) := by decide +kernel
theorem d23_6 : decode jdk_29_method_65_code 6 = .ok (.goto 4, 3) := by decide +kernel
theorem d23_10 : decode jdk_29_method_65_code 10 = .ok (.ireturn, 1) := by decide +kernel
theorem ef_28 (m : MethodId) (x0 : Int32) (x1 : Int32) : entryFrame m #[(.int x0), (.int x1)] 2 = mkF m 0 #[.val (.int x0), .val (.int x1)] [] := by first | (simp [entryFrame, mkF, argsToLocals, Value.category]; done) | rfl
def Q_max23_0 (Z : State)  (h0 : Heap) (n0 : Nat) (v : Option Value) (h : Heap) (L : List Loc) : Prop := v = some (.int (10 : Int32)) ∧ Fr n0 L ∧ h = h0
set_option maxRecDepth 65536 in
set_option maxHeartbeats 40000000 in
theorem rm_max23_0 (l : Launch) (Z : State) (a0 : Array Value) (hw : ∀ d ∈ tables_1, d.before a0 Z = true) (ws : List Jvm.Cond)  (h0 : Heap) (n0 : Nat) (O0 : Old Z n0 h0) :
    MetFree l (⟨"java/lang/Math", "max", "(II)I"⟩ : MethodName) (head1 (Jvm.Cond.code (⟨"java/lang/Math", "max", "(II)I"⟩ : MethodName) jdk_29_method_65_code 2 (some .int) :: ws) ({ frames := 0, cells := 0, slots := 0, locals := 0 } : Room)) (fun a U => a = #[(.int (10 : Int32)), (.int (1 : Int32))] ∧ Z.Warmed39 U.vm ∧ U.heap = h0) (fun _ _ _ _ _ => True) (fun _ U o U' => ∃ v L, o = .returned v ∧ Q_max23_0 Z  h0 n0 v U'.heap L ∧ FrameEnd U o U' L ({ frames := 0, cells := 0, slots := 0, locals := 0 } : Room).cells ({ frames := 0, cells := 0, slots := 0, locals := 0 } : Room).slots) := by
  refine MetFree.of_bodySF (Jvm.Free.JP.mathPlain rfl (by decide +kernel)) hisR ?_
  intro p e s m args below meth c s₁ Bd hml0 hP hK
  have W := fun {d : Jvm.Cond} (i : Nat) (q : tables_1[i]? = some d) => hw d (List.mem_of_getElem? q)
  obtain ⟨rfl, hZ, hh⟩ := hP
  have hx := Bd.exec
  have hby := Bd.bytes
  have hml : c.maxLocals = 2 := hml0
  have hown : s.vm.findClass "java/lang/Math" = some m.cls := findClass_of_methodNamed Bd.named
  have hnm := (name_of_methodNamed Bd.named Bd.method).1
  have X0 : Stand p l e ({ frames := 0, cells := 0, slots := 0, locals := 0 } : Room) s m #[(.int (10 : Int32)), (.int (1 : Int32))] below meth c s₁ [] 0 0 := Stand.of_body Bd
  have e0 : s₁.heap = h0 := by rw [← hh, Bd.state]; rfl
  have N0 := Fr.nil n0
  have pre0 : ∀ t, Steps p.tables e below (s₁.setTop (mkF m 0 #[iv (10 : Int32), iv (1 : Int32)] [])) t → Steps p.tables e below (s₁.setTop (entryFrame m #[(.int (10 : Int32)), (.int (1 : Int32))] 2)) t := fun t k => castTop (ef_28 m (10 : Int32) (1 : Int32)) k
  have K0 : Keep h0 h0 [] := Keep.refl h0 []
  have pre1409 : ∀ t, Steps p.tables e below (s₁.setTop (mkF m 10 #[iv (10 : Int32), iv (1 : Int32)] [(.int (10 : Int32))])) t → Steps p.tables e below (s₁.setTop (entryFrame m #[(.int (10 : Int32)), (.int (1 : Int32))] 2)) t := fun t kt => by
    refine pre0 _ ?_
    show Steps p.tables e below (s₁.setTop (mkF m 0 #[iv (10 : Int32), iv (1 : Int32)] [])) _
    refine XS.iloadN X0.here hx rfl (hb hby d23_0) rfl ?_
    refine XS.iloadN X0.here hx rfl (hb hby d23_1) rfl ?_
    refine XS.icmpNo X0.here hx rfl (hb hby d23_2) rfl (XT.ii_lt_f (by decide)) ?_
    refine XS.iloadN X0.here hx rfl (hb hby d23_5) rfl ?_
    refine XS.goto X0.here hx rfl (pc0 := 6) (pc' := 10) rfl (hb hby d23_6) (by decide) (by decide) ?_
    exact kt
  obtain ⟨fs, hr, hrun, hended, hW, hsame⟩ := X0.leave (v := some (.int (10 : Int32))) (fun h => by rw [Bd.returns] at h; cases h)
  refine ⟨_, _, pre1409 _ (retI X0 hx Bd.returns (hb hby d23_10) hr), hrun, hended, _, _, rfl, ?_, ⟨_, rfl⟩, hW, hsame.mono (by decide) (by decide)⟩
  show Q_max23_0 Z  h0 n0 _ s₁.heap _
  rw [e0]
  exact ⟨rfl, N0, rfl⟩
theorem pd_29 : parseMethodDescriptor "(II)I" = some ⟨[.int, .int], some .int⟩ := by decide +kernel
theorem d22_52 : decode jdk_38_method_6_code 52 = .ok (.anewarray 7, 3) := by decide +kernel
theorem d22_55 : decode jdk_38_method_6_code 55 = .ok (.dup_x1, 1) := by decide +kernel
theorem d22_56 : decode jdk_38_method_6_code 56 = .ok (.putfield 9, 3) := by decide +kernel
theorem d22_59 : decode jdk_38_method_6_code 59 = .ok (.areturn, 1) := by decide +kernel
theorem pn_30 : plainName "java/util/ArrayList" = true := by first | (simp [plainName, overriddenIn]; done) | decide +kernel
theorem ef_31 (m : MethodId) (x0 : Addr) (x1 : Int32) : entryFrame m #[(.ref x0), (.int x1)] 4 = mkF m 0 #[.val (.ref x0), .val (.int x1), .unset, .unset] [] := by first | (simp [entryFrame, mkF, argsToLocals, Value.category]; done) | rfl
def Q_grow22_0 (Z : State) (ls : Addr) (ad : Addr) (kd : ClassId) (mc : Int32) (h0 : Heap) (n0 : Nat) (v : Option Value) (h : Heap) (L : List Loc) : Prop := ∃ (b1508 : Addr) (k1508 : ClassId), v = some (.ref b1508) ∧ Fr n0 L ∧ Keep h0 h [ls] ∧ Old Z n0 h ∧ Exa Z h ls "java/util/ArrayList" ∧ Fld Z h ls "java/util/ArrayList" "size" "I" (.int (0 : Int32)) ∧ Fld Z h ls "java/util/AbstractList" "modCount" "I" (.int (mc + (1 : Int32))) ∧ Arv Z h b1508 k1508 (.object "java/lang/Object") (10 : Int32) [.null, .null, .null, .null, .null, .null, .null, .null, .null, .null] .null ∧ Ovr Z k1508 "java/lang/Object" ∧ Exa Z h b1508 "[Ljava/lang/Object;" ∧ Fld Z h ls "java/util/ArrayList" "elementData" "[Ljava/lang/Object;" (.ref b1508) ∧ (h0.size ≤ b1508)
set_option maxRecDepth 65536 in
set_option maxHeartbeats 40000000 in
theorem rm_grow22_0 (l : Launch) (Z : State) (a0 : Array Value) (hw : ∀ d ∈ tables_1, d.before a0 Z = true) (ws : List Jvm.Cond) (ls : Addr) (ad : Addr) (kd : ClassId) (mc : Int32) (h0 : Heap) (n0 : Nat) (O0 : Old Z n0 h0) (G0 : Sta Z Z.heap "java/util/ArrayList" "DEFAULTCAPACITY_EMPTY_ELEMENTDATA" "[Ljava/lang/Object;" (.ref ad)) (G1 : Arv Z Z.heap ad kd (.object "java/lang/Object") (0 : Int32) [] .null) (g_ls : n0 ≤ ls) (Fi0 : Exa Z h0 ls "java/util/ArrayList") (Fi1 : Fld Z h0 ls "java/util/ArrayList" "elementData" "[Ljava/lang/Object;" (.ref ad)) (Fi2 : Fld Z h0 ls "java/util/ArrayList" "size" "I" (.int (0 : Int32))) (Fi3 : Fld Z h0 ls "java/util/AbstractList" "modCount" "I" (.int (mc + (1 : Int32)))) :
    MetFree l (⟨"java/util/ArrayList", "grow", "(I)[Ljava/lang/Object;"⟩ : MethodName) (head1 (Jvm.Cond.code (⟨"java/util/ArrayList", "grow", "(I)[Ljava/lang/Object;"⟩ : MethodName) jdk_38_method_6_code 4 (some (.array (.object "java/lang/Object"))) :: ws) ({ frames := 1, cells := 1, slots := 10, locals := 14 } : Room)) (fun a U => a = #[(.ref ls), (.int (1 : Int32))] ∧ Z.Warmed39 U.vm ∧ U.heap = h0) (fun _ _ _ _ _ => True) (fun _ U o U' => ∃ v L, o = .returned v ∧ Q_grow22_0 Z ls ad kd mc h0 n0 v U'.heap L ∧ FrameEnd U o U' L ({ frames := 1, cells := 1, slots := 10, locals := 14 } : Room).cells ({ frames := 1, cells := 1, slots := 10, locals := 14 } : Room).slots) := by
  refine MetFree.of_bodySF (plainFor_of_name pn_30) hisR ?_
  intro p e s m args below meth c s₁ Bd hml0 hP hK
  have W := fun {d : Jvm.Cond} (i : Nat) (q : tables_1[i]? = some d) => hw d (List.mem_of_getElem? q)
  obtain ⟨rfl, hZ, hh⟩ := hP
  have hx := Bd.exec
  have hby := Bd.bytes
  have hml : c.maxLocals = 4 := hml0
  have hown : s.vm.findClass "java/util/ArrayList" = some m.cls := findClass_of_methodNamed Bd.named
  have hnm := (name_of_methodNamed Bd.named Bd.method).1
  have X0 : Stand p l e ({ frames := 1, cells := 1, slots := 10, locals := 14 } : Room) s m #[(.ref ls), (.int (1 : Int32))] below meth c s₁ [] 0 0 := Stand.of_body Bd
  have e0 : s₁.heap = h0 := by rw [← hh, Bd.state]; rfl
  have N0 := Fr.nil n0
  have pre0 : ∀ t, Steps p.tables e below (s₁.setTop (mkF m 0 #[rv ls, iv (1 : Int32), .unset, .unset] [])) t → Steps p.tables e below (s₁.setTop (entryFrame m #[(.ref ls), (.int (1 : Int32))] 4)) t := fun t k => castTop (ef_31 m ls (1 : Int32)) k
  have K0 : Keep h0 h0 [ls] := Keep.refl h0 [ls]
  have pre1496 : ∀ t, Steps p.tables e below (s₁.setTop (mkF m 1 #[rv ls, iv (1 : Int32), .unset, .unset] [(.ref ls)])) t → Steps p.tables e below (s₁.setTop (entryFrame m #[(.ref ls), (.int (1 : Int32))] 4)) t := fun t kt => by
    refine pre0 _ ?_
    show Steps p.tables e below (s₁.setTop (mkF m 0 #[rv ls, iv (1 : Int32), .unset, .unset] [])) _
    refine XS.aloadN X0.here hx rfl (hb hby d22_0) rfl rfl ?_
    exact kt
  obtain ⟨T1497, X1497, e1497, st1497⟩ := getF X0 hx hZ hown (host := "") (Or.inl (W 78 rfl)) Via.refl e0 Fi1 (g := (mkF m 1 #[rv ls, iv (1 : Int32), .unset, .unset] [(.ref ls)])) rfl rfl (hb hby d22_1)
  have pre1498 : ∀ t, Steps p.tables e below (T1497.setTop (mkF m 4 #[rv ls, iv (1 : Int32), .unset, .unset] [(.ref ad)])) t → Steps p.tables e below (s₁.setTop (entryFrame m #[(.ref ls), (.int (1 : Int32))] 4)) t := fun t kt => pre1496 _ (st1497 _ kt)
  obtain ⟨c1499, Ar1499, -, S1499, M1499, -, -⟩ := id (G1.ext O0.2)
  have pre1500 : ∀ t, Steps p.tables e below (T1497.setTop (mkF m 11 #[rv ls, iv (1 : Int32), iv (0 : Int32), .unset] [(.ref ls)])) t → Steps p.tables e below (s₁.setTop (entryFrame m #[(.ref ls), (.int (1 : Int32))] 4)) t := fun t kt => by
    refine pre1498 _ ?_
    show Steps p.tables e below (T1497.setTop (mkF m 4 #[rv ls, iv (1 : Int32), .unset, .unset] [(.ref ad)])) _
    refine X1497.arraylength hx (by rw [e1497]; exact Ar1499.1) (State.isArrayOf_alike hZ.alike Ar1499.2.1) (g := (mkF m 4 #[rv ls, iv (1 : Int32), .unset, .unset] [(.ref ad)])) rfl rfl (hb hby d22_4) _ ?_
    rw [len_of S1499 M1499]
    refine XS.istoreN X1497.here hx rfl (hb hby d22_5) rfl (l' := #[rv ls, iv (1 : Int32), iv (0 : Int32), .unset]) rfl ?_
    refine XS.iloadN X1497.here hx rfl (hb hby d22_6) rfl ?_
    refine XS.ifNo X1497.here hx rfl (hb hby d22_7) rfl (XT.i0_gt_f (by decide)) ?_
    refine XS.aloadN X1497.here hx rfl (hb hby d22_10) rfl rfl ?_
    exact kt
  obtain ⟨T1501, X1501, e1501, st1501⟩ := getF X1497 hx hZ hown (host := "") (Or.inl (W 78 rfl)) Via.refl e1497 Fi1 (g := (mkF m 11 #[rv ls, iv (1 : Int32), iv (0 : Int32), .unset] [(.ref ls)])) rfl rfl (hb hby d22_11)
  have pre1502 : ∀ t, Steps p.tables e below (T1501.setTop (mkF m 14 #[rv ls, iv (1 : Int32), iv (0 : Int32), .unset] [(.ref ad)])) t → Steps p.tables e below (s₁.setTop (entryFrame m #[(.ref ls), (.int (1 : Int32))] 4)) t := fun t kt => pre1500 _ (st1501 _ kt)
  obtain ⟨T1503, X1503, e1503, st1503⟩ := getS2 X1501 hx hZ hown (host := "") (Or.inl (W 77 rfl)) Via.refl e1501 (G0.ext O0.2) (g := (mkF m 14 #[rv ls, iv (1 : Int32), iv (0 : Int32), .unset] [(.ref ad)])) rfl (hb hby d22_14)
  have pre1504 : ∀ t, Steps p.tables e below (T1503.setTop (mkF m 17 #[rv ls, iv (1 : Int32), iv (0 : Int32), .unset] [(.ref ad), (.ref ad)])) t → Steps p.tables e below (s₁.setTop (entryFrame m #[(.ref ls), (.int (1 : Int32))] 4)) t := fun t kt => pre1502 _ (st1503 _ kt)
  have pre1505 : ∀ t, Steps p.tables e below (T1503.setTop (mkF m 49 #[rv ls, iv (1 : Int32), iv (0 : Int32), .unset] [(.int (1 : Int32)), (.int (10 : Int32)), (.ref ls)])) t → Steps p.tables e below (s₁.setTop (entryFrame m #[(.ref ls), (.int (1 : Int32))] 4)) t := fun t kt => by
    refine pre1504 _ ?_
    show Steps p.tables e below (T1503.setTop (mkF m 17 #[rv ls, iv (1 : Int32), iv (0 : Int32), .unset] [(.ref ad), (.ref ad)])) _
    refine Jvm.RoadKit.acmp (g := (mkF m 17 #[rv ls, iv (1 : Int32), iv (0 : Int32), .unset] [(.ref ad), (.ref ad)])) X1503 hx rfl rfl rfl (pc0 := 17) (pc' := 45) (same := true) rfl (hb hby d22_17) rfl (decide_eq_true rfl) (by decide) (by decide) ?_
    refine XS.aloadN X1503.here hx rfl (hb hby d22_45) rfl rfl ?_
    refine XS.bipush X1503.here hx rfl (hb hby d22_46) ?_
    refine XS.iloadN X1503.here hx rfl (hb hby d22_48) rfl ?_
    exact kt
  obtain ⟨_, _, ⟨T1506, L1506, k1506, n1506⟩, -, X1506, ⟨Lc1506, hQ1506, l1506, y1506, z1506⟩, st1506⟩ := Jvm.LawKit.callS X1503 hx (y := (⟨"java/lang/Math", "max", "(II)I"⟩ : MethodName)) hown (mvT hZ (W 122 rfl)) (mvT hZ (W 123 rfl)) (mvT hZ (W 124 rfl)) (mvT hZ (W 125 rfl)) (by decide) (backOf (W := 1) (rm_max23_0 l Z a0 hw [] h0 n0 O0) hZ (W 125 rfl) (W 124 rfl) (by decide) (by decide)) (g := (mkF m 49 #[rv ls, iv (1 : Int32), iv (0 : Int32), .unset] [(.int (1 : Int32)), (.int (10 : Int32)), (.ref ls)])) rfl (by rw [hml]; rfl) (argsL := [(.int (10 : Int32)), (.int (1 : Int32))]) (rest := [(.ref ls)]) (lenOf pd_29 rfl) rfl (by show 2 * 0 + _ ≤ _; exact Nat.le_of_eq rfl) (hb hby d22_49) (fun _ _ => ⟨rfl, e1503, (by decide : 0 + 0 ≤ _), (by decide : 0 + 0 ≤ _)⟩)
  dsimp only [Pt.U, Pt.locs, Pt.cells, Pt.slots] at X1506 l1506 y1506 z1506 st1506 hQ1506
  subst l1506 y1506 z1506
  obtain ⟨rfl, M1506, e1506⟩ := hQ1506
  have N1506 := Fr.app N0 M1506
  have pre1507 : ∀ t, Steps p.tables e below (T1506.setTop (mkF m 52 #[rv ls, iv (1 : Int32), iv (0 : Int32), .unset] [(.int (10 : Int32)), (.ref ls)])) t → Steps p.tables e below (s₁.setTop (entryFrame m #[(.ref ls), (.int (1 : Int32))] 4)) t := fun t kt => pre1505 _ (st1506 _ kt)
  obtain ⟨T1508, h1508, k1508, X1508, e1508, E1508, A1508, B1508, V1508, st1508⟩ := newRE X1506 hx hZ hown (W 126 rfl) (W 127 rfl) e1506 (g := (mkF m 52 #[rv ls, iv (1 : Int32), iv (0 : Int32), .unset] [(.int (10 : Int32)), (.ref ls)])) rfl (hb hby d22_52) rfl (by decide) (cap := 10) (by decide) (by decide) (by decide) (by decide) (ad := "[Ljava/lang/Object;") (by decide)
  obtain ⟨b1508, g1508⟩ : ∃ z, z = h0.size := ⟨_, rfl⟩
  rw [← g1508] at A1508 B1508 st1508
  have pre1509 : ∀ t, Steps p.tables e below (T1508.setTop (mkF m 55 #[rv ls, iv (1 : Int32), iv (0 : Int32), .unset] [(.ref b1508), (.ref ls)])) t → Steps p.tables e below (s₁.setTop (entryFrame m #[(.ref ls), (.int (1 : Int32))] 4)) t := fun t kt => pre1507 _ (st1508 _ kt)
  have O1508 := O0.ext E1508
  have K1508 : Keep h0 h1508 [ls] := K0.ext E1508
  have F1510 := Fi0.ext E1508
  have F1511 := Fi1.ext E1508
  have F1512 := Fi2.ext E1508
  have F1513 := Fi3.ext E1508
  have g_b1508 : n0 ≤ b1508 := Nat.le_trans (Nat.le_trans (Nat.le_of_eq O0.1.symm) O0.2.1) (Nat.le_of_eq g1508.symm)
  have sz_b1508 : h0.size ≤ b1508 := Nat.le_trans K0.1 (Nat.le_of_eq g1508.symm)
  have ne_ad_b1508 : ad ≠ b1508 := Nat.ne_of_lt (Nat.lt_of_lt_of_le (G1.ext O0.2).lt (Nat.le_of_eq g1508.symm))
  have ne_ls_b1508 : ls ≠ b1508 := Nat.ne_of_lt (Nat.lt_of_lt_of_le Fi0.lt (Nat.le_of_eq g1508.symm))
  have F1514 : Arv Z h1508 b1508 k1508 (.object "java/lang/Object") (10 : Int32) [.null, .null, .null, .null, .null, .null, .null, .null, .null, .null] .null := (Arv.new A1508 (by decide)).pad (pad_rep [] .null 10)
  have F1515 : Exa Z h1508 b1508 "[Ljava/lang/Object;" := B1508
  have pre1516 : ∀ t, Steps p.tables e below (T1508.setTop (mkF m 56 #[rv ls, iv (1 : Int32), iv (0 : Int32), .unset] [(.ref b1508), (.ref ls), (.ref b1508)])) t → Steps p.tables e below (s₁.setTop (entryFrame m #[(.ref ls), (.int (1 : Int32))] 4)) t := fun t kt => by
    refine pre1509 _ ?_
    show Steps p.tables e below (T1508.setTop (mkF m 55 #[rv ls, iv (1 : Int32), iv (0 : Int32), .unset] [(.ref b1508), (.ref ls)])) _
    refine XS.dupX1 X1508.here hx rfl (hb hby d22_55) rfl rfl rfl ?_
    exact kt
  obtain ⟨T1517, h1517, X1517, e1517, W1517, st1517⟩ := putF X1508 hx hZ hown (host := "") (Or.inl (W 78 rfl)) Via.refl e1508 F1511 F1510 (Or.inl (W 79 rfl)) (W 57 rfl) (ty := (.array (.object "java/lang/Object"))) (by decide) rfl rfl (g := (mkF m 56 #[rv ls, iv (1 : Int32), iv (0 : Int32), .unset] [(.ref b1508), (.ref ls), (.ref b1508)])) rfl rfl (hb hby d22_56)
  have pre1518 : ∀ t, Steps p.tables e below (T1517.setTop (mkF m 59 #[rv ls, iv (1 : Int32), iv (0 : Int32), .unset] [(.ref b1508)])) t → Steps p.tables e below (s₁.setTop (entryFrame m #[(.ref ls), (.int (1 : Int32))] 4)) t := fun t kt => pre1516 _ (st1517 _ kt)
  have N1517 := Fr.snoc X1517 N1506 g_ls
  have O1517 := O1508.wr W1517 g_ls
  have K1517 : Keep h0 h1517 [ls] := K1508.wr W1517 (Or.inl (List.mem_of_getElem? (i := 0) rfl))
  have F1519 := F1510.wr W1517
  have F1520 := F1512.other W1517 (Or.inr (slot_ne (Or.inl (W 106 rfl)) (Or.inl (W 79 rfl)) (by decide) (t := .int) (t' := (.array (.object "java/lang/Object"))) (by decide) (by decide)))
  have F1521 := F1513.other W1517 (Or.inr (slot_ne (Or.inl (W 76 rfl)) (Or.inl (W 79 rfl)) (by decide) (t := .int) (t' := (.array (.object "java/lang/Object"))) (by decide) (by decide)))
  have F1522 := F1514.other W1517 (fun q => ne_ls_b1508 q.symm)
  have F1523 := F1515.wr W1517
  have F1524 : Fld Z h1517 ls "java/util/ArrayList" "elementData" "[Ljava/lang/Object;" (.ref b1508) := F1511.same W1517
  obtain ⟨fs, hr, hrun, hended, hW, hsame⟩ := X1517.leave (v := some (.ref b1508)) (fun h => by rw [Bd.returns] at h; cases h)
  refine ⟨_, _, pre1518 _ (X1517.areturnOut hx rfl Bd.returns rfl (hb hby d22_59) hr), hrun, hended, _, _, rfl, ?_, ⟨_, rfl⟩, hW, hsame.mono (by decide) (by decide)⟩
  show Q_grow22_0 Z ls ad kd mc h0 n0 _ T1517.heap _
  rw [e1517]
  exact ⟨b1508, k1508, rfl, N1517, K1517, O1517, F1519, F1520, F1521, F1522, V1508, F1523, F1524, sz_b1508⟩
theorem pd_32 : parseMethodDescriptor "(I)[Ljava/lang/Object;" = some ⟨[.int], some (.array (.object "java/lang/Object"))⟩ := by decide +kernel
theorem d21_10 : decode jdk_38_method_7_code 10 = .ok (.areturn, 1) := by decide +kernel
theorem ef_33 (m : MethodId) (x0 : Addr) : entryFrame m #[(.ref x0)] 1 = mkF m 0 #[.val (.ref x0)] [] := by first | (simp [entryFrame, mkF, argsToLocals, Value.category]; done) | rfl
def Q_grow21_0 (Z : State) (ls : Addr) (ad : Addr) (kd : ClassId) (mc : Int32) (h0 : Heap) (n0 : Nat) (v : Option Value) (h : Heap) (L : List Loc) : Prop := ∃ (b1508_1547 : Addr) (k1508_1547 : ClassId), v = some (.ref b1508_1547) ∧ Fr n0 L ∧ Keep h0 h [ls] ∧ Old Z n0 h ∧ Exa Z h ls "java/util/ArrayList" ∧ Fld Z h ls "java/util/ArrayList" "size" "I" (.int (0 : Int32)) ∧ Fld Z h ls "java/util/AbstractList" "modCount" "I" (.int (mc + (1 : Int32))) ∧ Arv Z h b1508_1547 k1508_1547 (.object "java/lang/Object") (10 : Int32) [.null, .null, .null, .null, .null, .null, .null, .null, .null, .null] .null ∧ Ovr Z k1508_1547 "java/lang/Object" ∧ Exa Z h b1508_1547 "[Ljava/lang/Object;" ∧ Fld Z h ls "java/util/ArrayList" "elementData" "[Ljava/lang/Object;" (.ref b1508_1547) ∧ (h0.size ≤ b1508_1547)
set_option maxRecDepth 65536 in
set_option maxHeartbeats 40000000 in
theorem rm_grow21_0 (l : Launch) (Z : State) (a0 : Array Value) (hw : ∀ d ∈ tables_1, d.before a0 Z = true) (ws : List Jvm.Cond) (ls : Addr) (ad : Addr) (kd : ClassId) (mc : Int32) (h0 : Heap) (n0 : Nat) (O0 : Old Z n0 h0) (G0 : Sta Z Z.heap "java/util/ArrayList" "DEFAULTCAPACITY_EMPTY_ELEMENTDATA" "[Ljava/lang/Object;" (.ref ad)) (G1 : Arv Z Z.heap ad kd (.object "java/lang/Object") (0 : Int32) [] .null) (g_ls : n0 ≤ ls) (Fi0 : Exa Z h0 ls "java/util/ArrayList") (Fi1 : Fld Z h0 ls "java/util/ArrayList" "elementData" "[Ljava/lang/Object;" (.ref ad)) (Fi2 : Fld Z h0 ls "java/util/ArrayList" "size" "I" (.int (0 : Int32))) (Fi3 : Fld Z h0 ls "java/util/AbstractList" "modCount" "I" (.int (mc + (1 : Int32)))) :
    MetFree l (⟨"java/util/ArrayList", "grow", "()[Ljava/lang/Object;"⟩ : MethodName) (head1 (Jvm.Cond.code (⟨"java/util/ArrayList", "grow", "()[Ljava/lang/Object;"⟩ : MethodName) jdk_38_method_7_code 1 (some (.array (.object "java/lang/Object"))) :: ws) ({ frames := 2, cells := 1, slots := 10, locals := 29 } : Room)) (fun a U => a = #[(.ref ls)] ∧ Z.Warmed39 U.vm ∧ U.heap = h0) (fun _ _ _ _ _ => True) (fun _ U o U' => ∃ v L, o = .returned v ∧ Q_grow21_0 Z ls ad kd mc h0 n0 v U'.heap L ∧ FrameEnd U o U' L ({ frames := 2, cells := 1, slots := 10, locals := 29 } : Room).cells ({ frames := 2, cells := 1, slots := 10, locals := 29 } : Room).slots) := by
  refine MetFree.of_bodySF (plainFor_of_name pn_30) hisR ?_
  intro p e s m args below meth c s₁ Bd hml0 hP hK
  have W := fun {d : Jvm.Cond} (i : Nat) (q : tables_1[i]? = some d) => hw d (List.mem_of_getElem? q)
  obtain ⟨rfl, hZ, hh⟩ := hP
  have hx := Bd.exec
  have hby := Bd.bytes
  have hml : c.maxLocals = 1 := hml0
  have hown : s.vm.findClass "java/util/ArrayList" = some m.cls := findClass_of_methodNamed Bd.named
  have hnm := (name_of_methodNamed Bd.named Bd.method).1
  have X0 : Stand p l e ({ frames := 2, cells := 1, slots := 10, locals := 29 } : Room) s m #[(.ref ls)] below meth c s₁ [] 0 0 := Stand.of_body Bd
  have e0 : s₁.heap = h0 := by rw [← hh, Bd.state]; rfl
  have N0 := Fr.nil n0
  have pre0 : ∀ t, Steps p.tables e below (s₁.setTop (mkF m 0 #[rv ls] [])) t → Steps p.tables e below (s₁.setTop (entryFrame m #[(.ref ls)] 1)) t := fun t k => castTop (ef_33 m ls) k
  have K0 : Keep h0 h0 [ls] := Keep.refl h0 [ls]
  have pre1543 : ∀ t, Steps p.tables e below (s₁.setTop (mkF m 2 #[rv ls] [(.ref ls), (.ref ls)])) t → Steps p.tables e below (s₁.setTop (entryFrame m #[(.ref ls)] 1)) t := fun t kt => by
    refine pre0 _ ?_
    show Steps p.tables e below (s₁.setTop (mkF m 0 #[rv ls] [])) _
    refine XS.aloadN X0.here hx rfl (hb hby d21_0) rfl rfl ?_
    refine XS.aloadN X0.here hx rfl (hb hby d21_1) rfl rfl ?_
    exact kt
  obtain ⟨T1544, X1544, e1544, st1544⟩ := getF X0 hx hZ hown (host := "") (Or.inl (W 105 rfl)) Via.refl e0 Fi2 (g := (mkF m 2 #[rv ls] [(.ref ls), (.ref ls)])) rfl rfl (hb hby d21_2)
  have pre1545 : ∀ t, Steps p.tables e below (T1544.setTop (mkF m 5 #[rv ls] [(.int (0 : Int32)), (.ref ls)])) t → Steps p.tables e below (s₁.setTop (entryFrame m #[(.ref ls)] 1)) t := fun t kt => pre1543 _ (st1544 _ kt)
  have pre1546 : ∀ t, Steps p.tables e below (T1544.setTop (mkF m 7 #[rv ls] [(.int (1 : Int32)), (.ref ls)])) t → Steps p.tables e below (s₁.setTop (entryFrame m #[(.ref ls)] 1)) t := fun t kt => by
    refine pre1545 _ ?_
    show Steps p.tables e below (T1544.setTop (mkF m 5 #[rv ls] [(.int (0 : Int32)), (.ref ls)])) _
    refine XS.iconst X1544.here hx rfl (hb hby d21_5) ?_
    refine XS.iadd X1544.here hx rfl (hb hby d21_6) rfl ?_
    show  Steps p.tables e below (T1544.setTop (mkF m 7 #[rv ls] [(.int ((0 : Int32) + (1 : Int32))), (.ref ls)])) _
    rw [(by decide : (((0 : Int32) + (1 : Int32)) : Int32) = (1 : Int32))]
    exact kt
  obtain ⟨cq1547, q1547, q1547'⟩ := (Fi0).cell
  obtain ⟨_, _, ⟨T1547, L1547, k1547, n1547⟩, -, X1547, ⟨Lc1547, hQ1547, l1547, y1547, z1547⟩, st1547⟩ := X1544.privateBack hx (y := (⟨"java/util/ArrayList", "grow", "(I)[Ljava/lang/Object;"⟩ : MethodName)) hown (mvT hZ (W 117 rfl)) (mvT hZ (W 118 rfl)) (mvT hZ (W 120 rfl)) (Cond.privateMethod_at (mvP hZ (W 119 rfl) (args := #[]))) (mvT hZ (W 121 rfl)) (by decide) (backOf (W := 0) (rm_grow22_0 l Z a0 hw [] ls ad kd mc h0 n0 O0 G0 G1 g_ls Fi0 Fi1 Fi2 Fi3) hZ (W 121 rfl) (W 58 rfl) (by decide) (by decide)) (g := (mkF m 7 #[rv ls] [(.int (1 : Int32)), (.ref ls)])) rfl (by rw [hml]; rfl) (Steps.refl _) (a := ls) (by rw [e1544]; exact q1547) q1547' (argsL := [(.int (1 : Int32))]) (rest := []) (lenOf pd_32 rfl) rfl (by show 2 * 0 + _ ≤ _; exact Nat.le_of_eq rfl) (hb hby d21_7) (fun _ _ => ⟨rfl, e1544, (by decide : 0 + 1 ≤ _), (by decide : 0 + 10 ≤ _)⟩)
  dsimp only [Pt.U, Pt.locs, Pt.cells, Pt.slots] at X1547 l1547 y1547 z1547 st1547 hQ1547
  subst l1547 y1547 z1547
  obtain ⟨b1508_1547, k1508_1547, rfl, M1547, Kc1547, O1547, J1547_0, J1547_1, J1547_2, J1547_3, J1547_4, J1547_5, J1547_6, P1547_0⟩ := hQ1547
  obtain ⟨h1547, e1547⟩ : ∃ z, T1547.heap = z := ⟨_, rfl⟩
  rw [e1547] at Kc1547 O1547 J1547_0 J1547_1 J1547_2 J1547_3 J1547_5 J1547_6
  try rw [e1547] at P1547_0
  have N1547 := Fr.app N0 M1547
  have K1547 : Keep h0 h1547 [ls] := K0.trans Kc1547 (own_all1 (Or.inl (List.mem_of_getElem? (i := 0) rfl)))
  have pre1548 : ∀ t, Steps p.tables e below (T1547.setTop (mkF m 10 #[rv ls] [(.ref b1508_1547)])) t → Steps p.tables e below (s₁.setTop (entryFrame m #[(.ref ls)] 1)) t := fun t kt => pre1546 _ (st1547.trans kt)
  have sz_b1508_1547 : h0.size ≤ b1508_1547 := Nat.le_trans K0.1 P1547_0
  have ne_ad_b1508_1547 : ad ≠ b1508_1547 := Nat.ne_of_lt (Nat.lt_of_lt_of_le (G1.ext O0.2).lt P1547_0)
  have ne_ls_b1508_1547 : ls ≠ b1508_1547 := Nat.ne_of_lt (Nat.lt_of_lt_of_le Fi0.lt P1547_0)
  have g_b1508_1547 : n0 ≤ b1508_1547 := Nat.le_trans (Nat.le_trans (Nat.le_of_eq O0.1.symm) O0.2.1) sz_b1508_1547
  obtain ⟨fs, hr, hrun, hended, hW, hsame⟩ := X1547.leave (v := some (.ref b1508_1547)) (fun h => by rw [Bd.returns] at h; cases h)
  refine ⟨_, _, pre1548 _ (X1547.areturnOut hx rfl Bd.returns rfl (hb hby d21_10) hr), hrun, hended, _, _, rfl, ?_, ⟨_, rfl⟩, hW, hsame.mono (by decide) (by decide)⟩
  show Q_grow21_0 Z ls ad kd mc h0 n0 _ T1547.heap _
  rw [e1547]
  exact ⟨b1508_1547, k1508_1547, rfl, N1547, K1547, O1547, J1547_0, J1547_1, J1547_2, J1547_3, J1547_4, J1547_5, J1547_6, sz_b1508_1547⟩
theorem pd_34 : parseMethodDescriptor "()[Ljava/lang/Object;" = some ⟨[], some (.array (.object "java/lang/Object"))⟩ := by decide +kernel
theorem d20_10 : decode jdk_38_method_24_code 10 = .ok (.astore_n 2, 1) := by decide +kernel
theorem d20_11 : decode jdk_38_method_24_code 11 = .ok (.aload_n 2, 1) := by decide +kernel
theorem d20_12 : decode jdk_38_method_24_code 12 = .ok (.iload_n 3, 1) := by decide +kernel
theorem d20_13 : decode jdk_38_method_24_code 13 = .ok (.aload_n 1, 1) := by decide +kernel
theorem d20_14 : decode jdk_38_method_24_code 14 = .ok (.aastore, 1) := by decide +kernel
theorem d20_15 : decode jdk_38_method_24_code 15 = .ok (.aload_n 0, 1) := by decide +kernel
theorem d20_16 : decode jdk_38_method_24_code 16 = .ok (.iload_n 3, 1) := by decide +kernel
theorem d20_17 : decode jdk_38_method_24_code 17 = .ok (.iconst 1, 1) := by decide +kernel
theorem d20_18 : decode jdk_38_method_24_code 18 = .ok (.iadd, 1) := by decide +kernel
theorem d20_19 : decode jdk_38_method_24_code 19 = .ok (.putfield 48, 3) := by decide +kernel
theorem d20_22 : decode jdk_38_method_24_code 22 = .ok (.return_, 1) := by decide +kernel
theorem ef_35 (m : MethodId) (x0 : Addr) (x1 : Addr) (x2 : Addr) (x3 : Int32) : entryFrame m #[(.ref x0), (.ref x1), (.ref x2), (.int x3)] 4 = mkF m 0 #[.val (.ref x0), .val (.ref x1), .val (.ref x2), .val (.int x3)] [] := by first | (simp [entryFrame, mkF, argsToLocals, Value.category]; done) | rfl
def Q_add20_0 (Z : State) (ls : Addr) (so : Addr) (ad : Addr) (kd : ClassId) (mc : Int32) (h0 : Heap) (n0 : Nat) (v : Option Value) (h : Heap) (L : List Loc) : Prop := ∃ (k1508_1644 : ClassId) (b1508_1644 : Addr), v = none ∧ Fr n0 L ∧ Keep h0 h [ls] ∧ Old Z n0 h ∧ Exa Z h ls "java/util/ArrayList" ∧ Fld Z h ls "java/util/AbstractList" "modCount" "I" (.int (mc + (1 : Int32))) ∧ Ovr Z k1508_1644 "java/lang/Object" ∧ Exa Z h b1508_1644 "[Ljava/lang/Object;" ∧ Fld Z h ls "java/util/ArrayList" "elementData" "[Ljava/lang/Object;" (.ref b1508_1644) ∧ Arv Z h b1508_1644 k1508_1644 (.object "java/lang/Object") (10 : Int32) [(.ref so), .null, .null, .null, .null, .null, .null, .null, .null, .null] .null ∧ Fld Z h ls "java/util/ArrayList" "size" "I" (.int (1 : Int32)) ∧ (h0.size ≤ b1508_1644)
set_option maxRecDepth 65536 in
set_option maxHeartbeats 40000000 in
theorem rm_add20_0 (l : Launch) (Z : State) (a0 : Array Value) (hw : ∀ d ∈ tables_1, d.before a0 Z = true) (ws : List Jvm.Cond) (ls : Addr) (so : Addr) (ad : Addr) (kd : ClassId) (mc : Int32) (h0 : Heap) (n0 : Nat) (O0 : Old Z n0 h0) (G0 : Sta Z Z.heap "java/util/ArrayList" "DEFAULTCAPACITY_EMPTY_ELEMENTDATA" "[Ljava/lang/Object;" (.ref ad)) (G1 : Arv Z Z.heap ad kd (.object "java/lang/Object") (0 : Int32) [] .null) (g_ls : n0 ≤ ls) (Fi0 : Exa Z h0 ls "java/util/ArrayList") (Fi1 : Fld Z h0 ls "java/util/ArrayList" "elementData" "[Ljava/lang/Object;" (.ref ad)) (Fi2 : Fld Z h0 ls "java/util/ArrayList" "size" "I" (.int (0 : Int32))) (Fi3 : Exa Z h0 so "java/lang/String") (Fi4 : Fld Z h0 ls "java/util/AbstractList" "modCount" "I" (.int (mc + (1 : Int32)))) :
    MetFree l (⟨"java/util/ArrayList", "add", "(Ljava/lang/Object;[Ljava/lang/Object;I)V"⟩ : MethodName) (head1 (Jvm.Cond.code (⟨"java/util/ArrayList", "add", "(Ljava/lang/Object;[Ljava/lang/Object;I)V"⟩ : MethodName) jdk_38_method_24_code 4 none :: ws) ({ frames := 3, cells := 1, slots := 10, locals := 41 } : Room)) (fun a U => a = #[(.ref ls), (.ref so), (.ref ad), (.int (0 : Int32))] ∧ Z.Warmed39 U.vm ∧ U.heap = h0) (fun _ _ _ _ _ => True) (fun _ U o U' => ∃ v L, o = .returned v ∧ Q_add20_0 Z ls so ad kd mc h0 n0 v U'.heap L ∧ FrameEnd U o U' L ({ frames := 3, cells := 1, slots := 10, locals := 41 } : Room).cells ({ frames := 3, cells := 1, slots := 10, locals := 41 } : Room).slots) := by
  refine MetFree.of_bodySF (plainFor_of_name pn_30) hisR ?_
  intro p e s m args below meth c s₁ Bd hml0 hP hK
  have W := fun {d : Jvm.Cond} (i : Nat) (q : tables_1[i]? = some d) => hw d (List.mem_of_getElem? q)
  obtain ⟨rfl, hZ, hh⟩ := hP
  have hx := Bd.exec
  have hby := Bd.bytes
  have hml : c.maxLocals = 4 := hml0
  have hown : s.vm.findClass "java/util/ArrayList" = some m.cls := findClass_of_methodNamed Bd.named
  have hnm := (name_of_methodNamed Bd.named Bd.method).1
  have X0 : Stand p l e ({ frames := 3, cells := 1, slots := 10, locals := 41 } : Room) s m #[(.ref ls), (.ref so), (.ref ad), (.int (0 : Int32))] below meth c s₁ [] 0 0 := Stand.of_body Bd
  have e0 : s₁.heap = h0 := by rw [← hh, Bd.state]; rfl
  have N0 := Fr.nil n0
  have pre0 : ∀ t, Steps p.tables e below (s₁.setTop (mkF m 0 #[rv ls, rv so, rv ad, iv (0 : Int32)] [])) t → Steps p.tables e below (s₁.setTop (entryFrame m #[(.ref ls), (.ref so), (.ref ad), (.int (0 : Int32))] 4)) t := fun t k => castTop (ef_35 m ls so ad (0 : Int32)) k
  have K0 : Keep h0 h0 [ls] := Keep.refl h0 [ls]
  have pre1642 : ∀ t, Steps p.tables e below (s₁.setTop (mkF m 2 #[rv ls, rv so, rv ad, iv (0 : Int32)] [(.ref ad), (.int (0 : Int32))])) t → Steps p.tables e below (s₁.setTop (entryFrame m #[(.ref ls), (.ref so), (.ref ad), (.int (0 : Int32))] 4)) t := fun t kt => by
    refine pre0 _ ?_
    show Steps p.tables e below (s₁.setTop (mkF m 0 #[rv ls, rv so, rv ad, iv (0 : Int32)] [])) _
    refine XS.iloadN X0.here hx rfl (hb hby d20_0) rfl ?_
    refine XS.aloadN X0.here hx rfl (hb hby d20_1) rfl rfl ?_
    exact kt
  obtain ⟨c1641, Ar1641, -, S1641, M1641, -, -⟩ := id (G1.ext O0.2)
  have pre1643 : ∀ t, Steps p.tables e below (s₁.setTop (mkF m 7 #[rv ls, rv so, rv ad, iv (0 : Int32)] [(.ref ls)])) t → Steps p.tables e below (s₁.setTop (entryFrame m #[(.ref ls), (.ref so), (.ref ad), (.int (0 : Int32))] 4)) t := fun t kt => by
    refine pre1642 _ ?_
    show Steps p.tables e below (s₁.setTop (mkF m 2 #[rv ls, rv so, rv ad, iv (0 : Int32)] [(.ref ad), (.int (0 : Int32))])) _
    refine X0.arraylength hx (by rw [e0]; exact Ar1641.1) (State.isArrayOf_alike hZ.alike Ar1641.2.1) (g := (mkF m 2 #[rv ls, rv so, rv ad, iv (0 : Int32)] [(.ref ad), (.int (0 : Int32))])) rfl rfl (hb hby d20_2) _ ?_
    rw [len_of S1641 M1641]
    refine XS.icmpNo X0.here hx rfl (hb hby d20_3) rfl (XT.ii_ne_f (by decide)) ?_
    refine XS.aloadN X0.here hx rfl (hb hby d20_6) rfl rfl ?_
    exact kt
  obtain ⟨cq1644, q1644, q1644'⟩ := (Fi0).cell
  obtain ⟨_, _, ⟨T1644, L1644, k1644, n1644⟩, -, X1644, ⟨Lc1644, hQ1644, l1644, y1644, z1644⟩, st1644⟩ := X0.privateBack hx (y := (⟨"java/util/ArrayList", "grow", "()[Ljava/lang/Object;"⟩ : MethodName)) hown (mvT hZ (W 112 rfl)) (mvT hZ (W 113 rfl)) (mvT hZ (W 115 rfl)) (Cond.privateMethod_at (mvP hZ (W 114 rfl) (args := #[]))) (mvT hZ (W 116 rfl)) (by decide) (backOf (W := 0) (rm_grow21_0 l Z a0 hw [] ls ad kd mc h0 n0 O0 G0 G1 g_ls Fi0 Fi1 Fi2 Fi4) hZ (W 116 rfl) (W 58 rfl) (by decide) (by decide)) (g := (mkF m 7 #[rv ls, rv so, rv ad, iv (0 : Int32)] [(.ref ls)])) rfl (by rw [hml]; rfl) (Steps.refl _) (a := ls) (by rw [e0]; exact q1644) q1644' (argsL := []) (rest := []) (lenOf pd_34 rfl) rfl (by show 2 * 0 + _ ≤ _; exact Nat.le_of_eq rfl) (hb hby d20_7) (fun _ _ => ⟨rfl, e0, (by decide : 0 + 1 ≤ _), (by decide : 0 + 10 ≤ _)⟩)
  dsimp only [Pt.U, Pt.locs, Pt.cells, Pt.slots] at X1644 l1644 y1644 z1644 st1644 hQ1644
  subst l1644 y1644 z1644
  obtain ⟨b1508_1644, k1508_1644, rfl, M1644, Kc1644, O1644, J1644_0, J1644_1, J1644_2, J1644_3, J1644_4, J1644_5, J1644_6, P1644_0⟩ := hQ1644
  obtain ⟨h1644, e1644⟩ : ∃ z, T1644.heap = z := ⟨_, rfl⟩
  rw [e1644] at Kc1644 O1644 J1644_0 J1644_1 J1644_2 J1644_3 J1644_5 J1644_6
  try rw [e1644] at P1644_0
  have N1644 := Fr.app N0 M1644
  have K1644 : Keep h0 h1644 [ls] := K0.trans Kc1644 (own_all1 (Or.inl (List.mem_of_getElem? (i := 0) rfl)))
  have pre1645 : ∀ t, Steps p.tables e below (T1644.setTop (mkF m 10 #[rv ls, rv so, rv ad, iv (0 : Int32)] [(.ref b1508_1644)])) t → Steps p.tables e below (s₁.setTop (entryFrame m #[(.ref ls), (.ref so), (.ref ad), (.int (0 : Int32))] 4)) t := fun t kt => pre1643 _ (st1644.trans kt)
  have F1646 := Fi3.keep Kc1644
  have sz_b1508_1644 : h0.size ≤ b1508_1644 := Nat.le_trans K0.1 P1644_0
  have ne_ad_b1508_1644 : ad ≠ b1508_1644 := Nat.ne_of_lt (Nat.lt_of_lt_of_le (G1.ext O0.2).lt P1644_0)
  have ne_ls_b1508_1644 : ls ≠ b1508_1644 := Nat.ne_of_lt (Nat.lt_of_lt_of_le Fi0.lt P1644_0)
  have ne_so_b1508_1644 : so ≠ b1508_1644 := Nat.ne_of_lt (Nat.lt_of_lt_of_le Fi3.lt P1644_0)
  have g_b1508_1644 : n0 ≤ b1508_1644 := Nat.le_trans (Nat.le_trans (Nat.le_of_eq O0.1.symm) O0.2.1) sz_b1508_1644
  have pre1647 : ∀ t, Steps p.tables e below (T1644.setTop (mkF m 14 #[rv ls, rv so, rv b1508_1644, iv (0 : Int32)] [(.ref so), (.int (0 : Int32)), (.ref b1508_1644)])) t → Steps p.tables e below (s₁.setTop (entryFrame m #[(.ref ls), (.ref so), (.ref ad), (.int (0 : Int32))] 4)) t := fun t kt => by
    refine pre1645 _ ?_
    show Steps p.tables e below (T1644.setTop (mkF m 10 #[rv ls, rv so, rv ad, iv (0 : Int32)] [(.ref b1508_1644)])) _
    refine XS.astoreN X1644.here hx rfl (hb hby d20_10) rfl rfl (l' := #[rv ls, rv so, rv b1508_1644, iv (0 : Int32)]) rfl ?_
    refine XS.aloadN X1644.here hx rfl (hb hby d20_11) rfl rfl ?_
    refine XS.iloadN X1644.here hx rfl (hb hby d20_12) rfl ?_
    refine XS.aloadN X1644.here hx rfl (hb hby d20_13) rfl rfl ?_
    exact kt
  obtain ⟨c1648, Ar1648, q1648, S1648, M1648, H1648, G1648⟩ := id J1644_3
  have i1648 : ¬ ((0 : Int32) < 0 ∨ c1648.slots.size ≤ ((0 : Int32)).toNatClampNeg) := inb_of S1648 ⟨by decide, by decide⟩
  obtain ⟨T1649, h1649, X1649, e1649, W1649, st1649⟩ := stR X1644 hx hZ e1644 Ar1648 (j := (0 : Int32)) i1648 rfl (Sto.ofV Ar1648 q1648 J1644_4 (Ins.of_exa F1646 (W 128 rfl))) (g := (mkF m 14 #[rv ls, rv so, rv b1508_1644, iv (0 : Int32)] [(.ref so), (.int (0 : Int32)), (.ref b1508_1644)])) rfl rfl (hb hby d20_14)
  have pre1650 : ∀ t, Steps p.tables e below (T1649.setTop (mkF m 15 #[rv ls, rv so, rv b1508_1644, iv (0 : Int32)] [])) t → Steps p.tables e below (s₁.setTop (entryFrame m #[(.ref ls), (.ref so), (.ref ad), (.int (0 : Int32))] 4)) t := fun t kt => pre1647 _ (st1649 _ kt)
  have N1649 := Fr.snoc X1649 N1644 g_b1508_1644
  have O1649 := O1644.wr W1649 g_b1508_1644
  have K1649 : Keep h0 h1649 [ls] := K1644.wr W1649 (Or.inr sz_b1508_1644)
  have F1651 := F1646.wr W1649
  have F1652 := J1644_0.wr W1649
  have F1653 := J1644_1.other W1649 (Or.inl ne_ls_b1508_1644)
  have F1654 := J1644_2.other W1649 (Or.inl ne_ls_b1508_1644)
  have F1655 := J1644_5.wr W1649
  have F1656 := J1644_6.other W1649 (Or.inl ne_ls_b1508_1644)
  have F1657 : Arv Z h1649 b1508_1644 k1508_1644 (.object "java/lang/Object") (10 : Int32) [(.ref so), .null, .null, .null, .null, .null, .null, .null, .null, .null] .null := Arv.set Ar1648 q1648 S1648 M1648 H1648 G1648 rfl W1649 0 rfl (Nat.le_of_ble_eq_true rfl)
  have pre1658 : ∀ t, Steps p.tables e below (T1649.setTop (mkF m 19 #[rv ls, rv so, rv b1508_1644, iv (0 : Int32)] [(.int (1 : Int32)), (.ref ls)])) t → Steps p.tables e below (s₁.setTop (entryFrame m #[(.ref ls), (.ref so), (.ref ad), (.int (0 : Int32))] 4)) t := fun t kt => by
    refine pre1650 _ ?_
    show Steps p.tables e below (T1649.setTop (mkF m 15 #[rv ls, rv so, rv b1508_1644, iv (0 : Int32)] [])) _
    refine XS.aloadN X1649.here hx rfl (hb hby d20_15) rfl rfl ?_
    refine XS.iloadN X1649.here hx rfl (hb hby d20_16) rfl ?_
    refine XS.iconst X1649.here hx rfl (hb hby d20_17) ?_
    refine XS.iadd X1649.here hx rfl (hb hby d20_18) rfl ?_
    show  Steps p.tables e below (T1649.setTop (mkF m 19 #[rv ls, rv so, rv b1508_1644, iv (0 : Int32)] [(.int ((0 : Int32) + (1 : Int32))), (.ref ls)])) _
    rw [(by decide : (((0 : Int32) + (1 : Int32)) : Int32) = (1 : Int32))]
    exact kt
  obtain ⟨T1659, h1659, X1659, e1659, W1659, st1659⟩ := putF X1649 hx hZ hown (host := "") (Or.inl (W 105 rfl)) Via.refl e1649 F1653 F1652 (Or.inl (W 106 rfl)) (W 57 rfl) (ty := .int) (by decide) rfl rfl (g := (mkF m 19 #[rv ls, rv so, rv b1508_1644, iv (0 : Int32)] [(.int (1 : Int32)), (.ref ls)])) rfl rfl (hb hby d20_19)
  have pre1660 : ∀ t, Steps p.tables e below (T1659.setTop (mkF m 22 #[rv ls, rv so, rv b1508_1644, iv (0 : Int32)] [])) t → Steps p.tables e below (s₁.setTop (entryFrame m #[(.ref ls), (.ref so), (.ref ad), (.int (0 : Int32))] 4)) t := fun t kt => pre1658 _ (st1659 _ kt)
  have N1659 := Fr.snoc X1659 N1649 g_ls
  have O1659 := O1649.wr W1659 g_ls
  have K1659 : Keep h0 h1659 [ls] := K1649.wr W1659 (Or.inl (List.mem_of_getElem? (i := 0) rfl))
  have F1661 := F1651.wr W1659
  have F1662 := F1652.wr W1659
  have F1663 := F1654.other W1659 (Or.inr (slot_ne (Or.inl (W 76 rfl)) (Or.inl (W 106 rfl)) (by decide) (t := .int) (t' := .int) (by decide) (by decide)))
  have F1664 := F1655.wr W1659
  have F1665 := F1656.other W1659 (Or.inr (slot_ne (Or.inl (W 79 rfl)) (Or.inl (W 106 rfl)) (by decide) (t := (.array (.object "java/lang/Object"))) (t' := .int) (by decide) (by decide)))
  have F1666 := F1657.other W1659 (fun q => ne_ls_b1508_1644 q.symm)
  have F1667 : Fld Z h1659 ls "java/util/ArrayList" "size" "I" (.int (1 : Int32)) := F1653.same W1659
  obtain ⟨fs, hr, hrun, hended, hW, hsame⟩ := X1659.leave (v := none) (fun _ => rfl)
  refine ⟨_, _, pre1660 _ (X1659.returnOut hx Bd.returns (hb hby d20_22) hr), hrun, hended, _, _, rfl, ?_, ⟨_, rfl⟩, hW, hsame.mono (by decide) (by decide)⟩
  show Q_add20_0 Z ls so ad kd mc h0 n0 _ T1659.heap _
  rw [e1659]
  exact ⟨k1508_1644, b1508_1644, rfl, N1659, K1659, O1659, F1662, F1663, J1644_4, F1664, F1665, F1666, F1667, sz_b1508_1644⟩
theorem pd_36 : parseMethodDescriptor "(Ljava/lang/Object;[Ljava/lang/Object;I)V" = some ⟨[(.object "java/lang/Object"), (.array (.object "java/lang/Object")), .int], none⟩ := by decide +kernel
theorem d19_23 : decode jdk_38_method_25_code 23 = .ok (.iconst 1, 1) := by decide +kernel
theorem d19_24 : decode jdk_38_method_25_code 24 = .ok (.ireturn, 1) := by decide +kernel
theorem ef_37 (m : MethodId) (x0 : Addr) (x1 : Addr) : entryFrame m #[(.ref x0), (.ref x1)] 2 = mkF m 0 #[.val (.ref x0), .val (.ref x1)] [] := by first | (simp [entryFrame, mkF, argsToLocals, Value.category]; done) | rfl
def Q_add19_0 (Z : State) (ls : Addr) (so : Addr) (ad : Addr) (kd : ClassId) (mc : Int32) (h0 : Heap) (n0 : Nat) (v : Option Value) (h : Heap) (L : List Loc) : Prop := ∃ (k1508_1734 : ClassId) (b1508_1734 : Addr), v = some (.int (1 : Int32)) ∧ Fr n0 L ∧ Keep h0 h [ls] ∧ Old Z n0 h ∧ Exa Z h ls "java/util/ArrayList" ∧ Fld Z h ls "java/util/AbstractList" "modCount" "I" (.int (mc + (1 : Int32))) ∧ Ovr Z k1508_1734 "java/lang/Object" ∧ Exa Z h b1508_1734 "[Ljava/lang/Object;" ∧ Fld Z h ls "java/util/ArrayList" "elementData" "[Ljava/lang/Object;" (.ref b1508_1734) ∧ Arv Z h b1508_1734 k1508_1734 (.object "java/lang/Object") (10 : Int32) [(.ref so), .null, .null, .null, .null, .null, .null, .null, .null, .null] .null ∧ Fld Z h ls "java/util/ArrayList" "size" "I" (.int (1 : Int32)) ∧ (h0.size ≤ b1508_1734)
set_option maxRecDepth 65536 in
set_option maxHeartbeats 40000000 in
theorem rm_add19_0 (l : Launch) (Z : State) (a0 : Array Value) (hw : ∀ d ∈ tables_1, d.before a0 Z = true) (ws : List Jvm.Cond) (ls : Addr) (so : Addr) (ad : Addr) (kd : ClassId) (mc : Int32) (h0 : Heap) (n0 : Nat) (O0 : Old Z n0 h0) (G0 : Sta Z Z.heap "java/util/ArrayList" "DEFAULTCAPACITY_EMPTY_ELEMENTDATA" "[Ljava/lang/Object;" (.ref ad)) (G1 : Arv Z Z.heap ad kd (.object "java/lang/Object") (0 : Int32) [] .null) (g_ls : n0 ≤ ls) (Fi0 : Exa Z h0 ls "java/util/ArrayList") (Fi1 : Fld Z h0 ls "java/util/AbstractList" "modCount" "I" (.int mc)) (Fi2 : Fld Z h0 ls "java/util/ArrayList" "elementData" "[Ljava/lang/Object;" (.ref ad)) (Fi3 : Fld Z h0 ls "java/util/ArrayList" "size" "I" (.int (0 : Int32))) (Fi4 : Exa Z h0 so "java/lang/String") :
    MetFree l (⟨"java/util/ArrayList", "add", "(Ljava/lang/Object;)Z"⟩ : MethodName) (head1 (Jvm.Cond.code (⟨"java/util/ArrayList", "add", "(Ljava/lang/Object;)Z"⟩ : MethodName) jdk_38_method_25_code 2 (some .boolean) :: ws) ({ frames := 4, cells := 1, slots := 10, locals := 56 } : Room)) (fun a U => a = #[(.ref ls), (.ref so)] ∧ Z.Warmed39 U.vm ∧ U.heap = h0) (fun _ _ _ _ _ => True) (fun _ U o U' => ∃ v L, o = .returned v ∧ Q_add19_0 Z ls so ad kd mc h0 n0 v U'.heap L ∧ FrameEnd U o U' L ({ frames := 4, cells := 1, slots := 10, locals := 56 } : Room).cells ({ frames := 4, cells := 1, slots := 10, locals := 56 } : Room).slots) := by
  refine MetFree.of_bodySF (plainFor_of_name pn_30) hisR ?_
  intro p e s m args below meth c s₁ Bd hml0 hP hK
  have W := fun {d : Jvm.Cond} (i : Nat) (q : tables_1[i]? = some d) => hw d (List.mem_of_getElem? q)
  obtain ⟨rfl, hZ, hh⟩ := hP
  have hx := Bd.exec
  have hby := Bd.bytes
  have hml : c.maxLocals = 2 := hml0
  have hown : s.vm.findClass "java/util/ArrayList" = some m.cls := findClass_of_methodNamed Bd.named
  have hnm := (name_of_methodNamed Bd.named Bd.method).1
  have X0 : Stand p l e ({ frames := 4, cells := 1, slots := 10, locals := 56 } : Room) s m #[(.ref ls), (.ref so)] below meth c s₁ [] 0 0 := Stand.of_body Bd
  have e0 : s₁.heap = h0 := by rw [← hh, Bd.state]; rfl
  have N0 := Fr.nil n0
  have pre0 : ∀ t, Steps p.tables e below (s₁.setTop (mkF m 0 #[rv ls, rv so] [])) t → Steps p.tables e below (s₁.setTop (entryFrame m #[(.ref ls), (.ref so)] 2)) t := fun t k => castTop (ef_37 m ls so) k
  have K0 : Keep h0 h0 [ls] := Keep.refl h0 [ls]
  have pre1717 : ∀ t, Steps p.tables e below (s₁.setTop (mkF m 2 #[rv ls, rv so] [(.ref ls), (.ref ls)])) t → Steps p.tables e below (s₁.setTop (entryFrame m #[(.ref ls), (.ref so)] 2)) t := fun t kt => by
    refine pre0 _ ?_
    show Steps p.tables e below (s₁.setTop (mkF m 0 #[rv ls, rv so] [])) _
    refine XS.aloadN X0.here hx rfl (hb hby d19_0) rfl rfl ?_
    refine XS.dup X0.here hx rfl (hb hby d19_1) rfl rfl ?_
    exact kt
  obtain ⟨T1718, X1718, e1718, st1718⟩ := getF X0 hx hZ hown (host := "") (Or.inl (W 103 rfl)) (Via.of (W 104 rfl)) e0 Fi1 (g := (mkF m 2 #[rv ls, rv so] [(.ref ls), (.ref ls)])) rfl rfl (hb hby d19_2)
  have pre1719 : ∀ t, Steps p.tables e below (T1718.setTop (mkF m 5 #[rv ls, rv so] [(.int mc), (.ref ls)])) t → Steps p.tables e below (s₁.setTop (entryFrame m #[(.ref ls), (.ref so)] 2)) t := fun t kt => pre1717 _ (st1718 _ kt)
  have pre1720 : ∀ t, Steps p.tables e below (T1718.setTop (mkF m 7 #[rv ls, rv so] [(.int (mc + (1 : Int32))), (.ref ls)])) t → Steps p.tables e below (s₁.setTop (entryFrame m #[(.ref ls), (.ref so)] 2)) t := fun t kt => by
    refine pre1719 _ ?_
    show Steps p.tables e below (T1718.setTop (mkF m 5 #[rv ls, rv so] [(.int mc), (.ref ls)])) _
    refine XS.iconst X1718.here hx rfl (hb hby d19_5) ?_
    refine XS.iadd X1718.here hx rfl (hb hby d19_6) rfl ?_
    exact kt
  obtain ⟨T1721, h1721, X1721, e1721, W1721, st1721⟩ := putF X1718 hx hZ hown (host := "") (Or.inl (W 103 rfl)) (Via.of (W 104 rfl)) e1718 Fi1 Fi0 (Or.inl (W 76 rfl)) (W 57 rfl) (ty := .int) (by decide) rfl rfl (g := (mkF m 7 #[rv ls, rv so] [(.int (mc + (1 : Int32))), (.ref ls)])) rfl rfl (hb hby d19_7)
  have pre1722 : ∀ t, Steps p.tables e below (T1721.setTop (mkF m 10 #[rv ls, rv so] [])) t → Steps p.tables e below (s₁.setTop (entryFrame m #[(.ref ls), (.ref so)] 2)) t := fun t kt => pre1720 _ (st1721 _ kt)
  have N1721 := Fr.snoc X1721 N0 g_ls
  have O1721 := O0.wr W1721 g_ls
  have K1721 : Keep h0 h1721 [ls] := K0.wr W1721 (Or.inl (List.mem_of_getElem? (i := 0) rfl))
  have F1723 := Fi0.wr W1721
  have F1724 := Fi2.other W1721 (Or.inr (slot_ne (Or.inl (W 79 rfl)) (Or.inl (W 76 rfl)) (by decide) (t := (.array (.object "java/lang/Object"))) (t' := .int) (by decide) (by decide)))
  have F1725 := Fi3.other W1721 (Or.inr (slot_ne (Or.inl (W 106 rfl)) (Or.inl (W 76 rfl)) (by decide) (t := .int) (t' := .int) (by decide) (by decide)))
  have F1726 := Fi4.wr W1721
  have F1727 : Fld Z h1721 ls "java/util/AbstractList" "modCount" "I" (.int (mc + (1 : Int32))) := Fi1.same W1721
  have pre1728 : ∀ t, Steps p.tables e below (T1721.setTop (mkF m 13 #[rv ls, rv so] [(.ref ls), (.ref so), (.ref ls)])) t → Steps p.tables e below (s₁.setTop (entryFrame m #[(.ref ls), (.ref so)] 2)) t := fun t kt => by
    refine pre1722 _ ?_
    show Steps p.tables e below (T1721.setTop (mkF m 10 #[rv ls, rv so] [])) _
    refine XS.aloadN X1721.here hx rfl (hb hby d19_10) rfl rfl ?_
    refine XS.aloadN X1721.here hx rfl (hb hby d19_11) rfl rfl ?_
    refine XS.aloadN X1721.here hx rfl (hb hby d19_12) rfl rfl ?_
    exact kt
  obtain ⟨T1729, X1729, e1729, st1729⟩ := getF X1721 hx hZ hown (host := "") (Or.inl (W 78 rfl)) Via.refl e1721 F1724 (g := (mkF m 13 #[rv ls, rv so] [(.ref ls), (.ref so), (.ref ls)])) rfl rfl (hb hby d19_13)
  have pre1730 : ∀ t, Steps p.tables e below (T1729.setTop (mkF m 16 #[rv ls, rv so] [(.ref ad), (.ref so), (.ref ls)])) t → Steps p.tables e below (s₁.setTop (entryFrame m #[(.ref ls), (.ref so)] 2)) t := fun t kt => pre1728 _ (st1729 _ kt)
  have pre1731 : ∀ t, Steps p.tables e below (T1729.setTop (mkF m 17 #[rv ls, rv so] [(.ref ls), (.ref ad), (.ref so), (.ref ls)])) t → Steps p.tables e below (s₁.setTop (entryFrame m #[(.ref ls), (.ref so)] 2)) t := fun t kt => by
    refine pre1730 _ ?_
    show Steps p.tables e below (T1729.setTop (mkF m 16 #[rv ls, rv so] [(.ref ad), (.ref so), (.ref ls)])) _
    refine XS.aloadN X1729.here hx rfl (hb hby d19_16) rfl rfl ?_
    exact kt
  obtain ⟨T1732, X1732, e1732, st1732⟩ := getF X1729 hx hZ hown (host := "") (Or.inl (W 105 rfl)) Via.refl e1729 F1725 (g := (mkF m 17 #[rv ls, rv so] [(.ref ls), (.ref ad), (.ref so), (.ref ls)])) rfl rfl (hb hby d19_17)
  have pre1733 : ∀ t, Steps p.tables e below (T1732.setTop (mkF m 20 #[rv ls, rv so] [(.int (0 : Int32)), (.ref ad), (.ref so), (.ref ls)])) t → Steps p.tables e below (s₁.setTop (entryFrame m #[(.ref ls), (.ref so)] 2)) t := fun t kt => pre1731 _ (st1732 _ kt)
  obtain ⟨cq1734, q1734, q1734'⟩ := (F1723).cell
  obtain ⟨_, _, ⟨T1734, L1734, k1734, n1734⟩, -, X1734, ⟨Lc1734, hQ1734, l1734, y1734, z1734⟩, st1734⟩ := X1732.privateBack hx (y := (⟨"java/util/ArrayList", "add", "(Ljava/lang/Object;[Ljava/lang/Object;I)V"⟩ : MethodName)) hown (mvT hZ (W 107 rfl)) (mvT hZ (W 108 rfl)) (mvT hZ (W 110 rfl)) (Cond.privateMethod_at (mvP hZ (W 109 rfl) (args := #[]))) (mvT hZ (W 111 rfl)) (by decide) (backOf (W := 0) (rm_add20_0 l Z a0 hw [] ls so ad kd mc h1721 n0 O1721 G0 G1 g_ls F1723 F1724 F1725 F1726 F1727) hZ (W 111 rfl) (W 58 rfl) (by decide) (by decide)) (g := (mkF m 20 #[rv ls, rv so] [(.int (0 : Int32)), (.ref ad), (.ref so), (.ref ls)])) rfl (by rw [hml]; rfl) (Steps.refl _) (a := ls) (by rw [e1732]; exact q1734) q1734' (argsL := [(.ref so), (.ref ad), (.int (0 : Int32))]) (rest := []) (lenOf pd_36 rfl) rfl (by show 2 * 0 + _ ≤ _; exact Nat.le_of_eq rfl) (hb hby d19_20) (fun _ _ => ⟨rfl, e1732, (by decide : 0 + 1 ≤ _), (by decide : 0 + 10 ≤ _)⟩)
  dsimp only [Pt.U, Pt.locs, Pt.cells, Pt.slots] at X1734 l1734 y1734 z1734 st1734 hQ1734
  subst l1734 y1734 z1734
  obtain ⟨k1508_1734, b1508_1734, rfl, M1734, Kc1734, O1734, J1734_0, J1734_1, J1734_2, J1734_3, J1734_4, J1734_5, J1734_6, P1734_0⟩ := hQ1734
  obtain ⟨h1734, e1734⟩ : ∃ z, T1734.heap = z := ⟨_, rfl⟩
  rw [e1734] at Kc1734 O1734 J1734_0 J1734_1 J1734_3 J1734_4 J1734_5 J1734_6
  try rw [e1734] at P1734_0
  have N1734 := Fr.app N1721 M1734
  have K1734 : Keep h0 h1734 [ls] := K1721.trans Kc1734 (own_all1 (Or.inl (List.mem_of_getElem? (i := 0) rfl)))
  have pre1735 : ∀ t, Steps p.tables e below (T1734.setTop (mkF m 23 #[rv ls, rv so] [])) t → Steps p.tables e below (s₁.setTop (entryFrame m #[(.ref ls), (.ref so)] 2)) t := fun t kt => pre1733 _ (st1734.trans kt)
  have F1736 := F1726.keep Kc1734
  have sz_b1508_1734 : h0.size ≤ b1508_1734 := Nat.le_trans K1721.1 P1734_0
  have ne_ad_b1508_1734 : ad ≠ b1508_1734 := Nat.ne_of_lt (Nat.lt_of_lt_of_le (G1.ext O1721.2).lt P1734_0)
  have ne_ls_b1508_1734 : ls ≠ b1508_1734 := Nat.ne_of_lt (Nat.lt_of_lt_of_le F1723.lt P1734_0)
  have ne_so_b1508_1734 : so ≠ b1508_1734 := Nat.ne_of_lt (Nat.lt_of_lt_of_le F1726.lt P1734_0)
  have g_b1508_1734 : n0 ≤ b1508_1734 := Nat.le_trans (Nat.le_trans (Nat.le_of_eq O0.1.symm) O0.2.1) sz_b1508_1734
  have pre1737 : ∀ t, Steps p.tables e below (T1734.setTop (mkF m 24 #[rv ls, rv so] [(.int (1 : Int32))])) t → Steps p.tables e below (s₁.setTop (entryFrame m #[(.ref ls), (.ref so)] 2)) t := fun t kt => by
    refine pre1735 _ ?_
    show Steps p.tables e below (T1734.setTop (mkF m 23 #[rv ls, rv so] [])) _
    refine XS.iconst X1734.here hx rfl (hb hby d19_23) ?_
    exact kt
  obtain ⟨fs, hr, hrun, hended, hW, hsame⟩ := X1734.leave (v := some (.int (1 : Int32))) (fun h => by rw [Bd.returns] at h; cases h)
  refine ⟨_, _, pre1737 _ (retN X1734 hx (t := .boolean) Bd.returns (by simp) (hb hby d19_24) hr), hrun, hended, _, _, rfl, ?_, ⟨_, rfl⟩, hW, hsame.mono (by decide) (by decide)⟩
  show Q_add19_0 Z ls so ad kd mc h0 n0 _ T1734.heap _
  rw [e1734]
  exact ⟨k1508_1734, b1508_1734, rfl, N1734, K1734, O1734, J1734_0, J1734_1, J1734_2, J1734_3, J1734_4, J1734_5, J1734_6, sz_b1508_1734⟩
theorem pd_38 : parseMethodDescriptor "(Ljava/lang/Object;)Z" = some ⟨[(.object "java/lang/Object")], some .boolean⟩ := by decide +kernel
theorem d18_10 : decode prog_42_method_3_code 10 = .ok (.pop, 1) := by decide +kernel
theorem d18_11 : decode prog_42_method_3_code 11 = .ok (.aload_n 2, 1) := by decide +kernel
theorem d18_12 : decode prog_42_method_3_code 12 = .ok (.aload_n 1, 1) := by decide +kernel
theorem d18_13 : decode prog_42_method_3_code 13 = .ok (.invokevirtual 36, 3) := by decide +kernel
theorem d18_16 : decode prog_42_method_3_code 16 = .ok (.ifCond .ne 8, 3) := by decide +kernel
theorem d18_19 : decode prog_42_method_3_code 19 = .ok (.aload_n 0, 1) := by decide +kernel
theorem d18_20 : decode prog_42_method_3_code 20 = .ok (.iconst 1, 1) := by decide +kernel
theorem d18_21 : decode prog_42_method_3_code 21 = .ok (.putfield 39, 3) := by decide +kernel
theorem d18_24 : decode prog_42_method_3_code 24 = .ok (.return_, 1) := by decide +kernel
def Q_line0 (Z : State) (rp : Addr) (se : Addr) (so : Addr) (cz : Int32) (ad : Addr) (kd : ClassId) (ls : Addr) (mc : Int32) (df : Int32) (b1 : Int32) (c0 : Int32) (c1 : Int32) (b2 : Int32) (d0 : Int32) (d1 : Int32) (h0 : Heap) (n0 : Nat) (v : Option Value) (h : Heap) (L : List Loc) : Prop := ∃ (na : Addr) (kna : ClassId), v = none ∧ Fr n0 L ∧ Keep h0 h [rp, ls] ∧ Old Z n0 h ∧ Exa Z h rp "com/example/homethread/homethread/cli/ScenarioReport" ∧ Fld Z h rp "com/example/homethread/homethread/cli/ScenarioReport" "lines" "Ljava/util/List;" (.ref ls) ∧ Fld Z h rp "com/example/homethread/homethread/cli/ScenarioReport" "differs" "Z" (.int (own_dif df (own_eqv (own_cs b1 c0 c1) (own_cs b2 d0 d1)))) ∧ Exa Z h ls "java/util/ArrayList" ∧ Fld Z h ls "java/util/AbstractList" "modCount" "I" (.int (mc + (1 : Int32))) ∧ Fld Z h ls "java/util/ArrayList" "elementData" "[Ljava/lang/Object;" (.ref na) ∧ Fld Z h ls "java/util/ArrayList" "size" "I" (.int (1 : Int32)) ∧ Exa Z h na "[Ljava/lang/Object;" ∧ Arv Z h na kna (.object "java/lang/Object") (10 : Int32) [(.ref so), .null, .null, .null, .null, .null, .null, .null, .null, .null] .null ∧ Ovr Z kna "java/lang/Object" ∧ (h0.size ≤ na)
set_option maxRecDepth 65536 in
set_option maxHeartbeats 40000000 in
theorem rm_line0 (l : Launch) (Z : State) (a0 : Array Value) (hw : ∀ d ∈ tables_1, d.before a0 Z = true) (ws : List Jvm.Cond) (rp : Addr) (se : Addr) (so : Addr) (cz : Int32) (ad : Addr) (kd : ClassId) (ls : Addr) (mc : Int32) (df : Int32) (b1 : Int32) (c0 : Int32) (c1 : Int32) (b2 : Int32) (d0 : Int32) (d1 : Int32) (h0 : Heap) (n0 : Nat) (O0 : Old Z n0 h0) (G0 : Sta Z Z.heap "java/lang/String" "COMPACT_STRINGS" "Z" (.int cz)) (G1 : Sta Z Z.heap "java/util/ArrayList" "DEFAULTCAPACITY_EMPTY_ELEMENTDATA" "[Ljava/lang/Object;" (.ref ad)) (G2 : Arv Z Z.heap ad kd (.object "java/lang/Object") (0 : Int32) [] .null) (G3 : Exa Z Z.heap ad "[Ljava/lang/Object;") (g_rp : n0 ≤ rp) (g_ls : n0 ≤ ls) (Fi0 : Exa Z h0 rp "com/example/homethread/homethread/cli/ScenarioReport") (Fi1 : Fld Z h0 rp "com/example/homethread/homethread/cli/ScenarioReport" "lines" "Ljava/util/List;" (.ref ls)) (Fi2 : Fld Z h0 rp "com/example/homethread/homethread/cli/ScenarioReport" "differs" "Z" (.int df)) (Fi3 : Exa Z h0 ls "java/util/ArrayList") (Fi4 : Fld Z h0 ls "java/util/AbstractList" "modCount" "I" (.int mc)) (Fi5 : Fld Z h0 ls "java/util/ArrayList" "elementData" "[Ljava/lang/Object;" (.ref ad)) (Fi6 : Fld Z h0 ls "java/util/ArrayList" "size" "I" (.int (0 : Int32))) (qz : ¬ (cz = (0 : Int32))) (qn : ¬ (so = se)) (qd : own_bit df) (qm0 : ¬ (rp = ls)) (hF : Heap) (XF0 : Ext hF h0) (Fb0 : own_str Z hF so b1 c0 c1) (Fb1 : own_str Z hF se b2 d0 d1) (zF_rp : hF.size ≤ rp) (zF_ls : hF.size ≤ ls) :
    MetFree l (⟨"com/example/homethread/homethread/cli/ScenarioReport", "expectLine", "(Ljava/lang/String;Ljava/lang/String;)V"⟩ : MethodName) (head1 (Jvm.Cond.code (⟨"com/example/homethread/homethread/cli/ScenarioReport", "expectLine", "(Ljava/lang/String;Ljava/lang/String;)V"⟩ : MethodName) prog_42_method_3_code 3 none :: ws) ({ frames := 5, cells := 1, slots := 10, locals := 69 } : Room)) (fun a U => a = #[(.ref rp), (.ref se), (.ref so)] ∧ Z.Warmed39 U.vm ∧ U.heap = h0) (fun _ _ _ _ _ => True) (fun _ U o U' => ∃ v L, o = .returned v ∧ Q_line0 Z rp se so cz ad kd ls mc df b1 c0 c1 b2 d0 d1 h0 n0 v U'.heap L ∧ FrameEnd U o U' L ({ frames := 5, cells := 1, slots := 10, locals := 69 } : Room).cells ({ frames := 5, cells := 1, slots := 10, locals := 69 } : Room).slots) := by
  refine MetFree.of_bodySF (plainFor_of_name pn_25) hisR ?_
  intro p e s m args below meth c s₁ Bd hml0 hP hK
  have W := fun {d : Jvm.Cond} (i : Nat) (q : tables_1[i]? = some d) => hw d (List.mem_of_getElem? q)
  obtain ⟨rfl, hZ, hh⟩ := hP
  have hx := Bd.exec
  have hby := Bd.bytes
  have hml : c.maxLocals = 3 := hml0
  have hown : s.vm.findClass "com/example/homethread/homethread/cli/ScenarioReport" = some m.cls := findClass_of_methodNamed Bd.named
  have hnm := (name_of_methodNamed Bd.named Bd.method).1
  have X0 : Stand p l e ({ frames := 5, cells := 1, slots := 10, locals := 69 } : Room) s m #[(.ref rp), (.ref se), (.ref so)] below meth c s₁ [] 0 0 := Stand.of_body Bd
  have e0 : s₁.heap = h0 := by rw [← hh, Bd.state]; rfl
  have N0 := Fr.nil n0
  have pre0 : ∀ t, Steps p.tables e below (s₁.setTop (mkF m 0 #[rv rp, rv se, rv so] [])) t → Steps p.tables e below (s₁.setTop (entryFrame m #[(.ref rp), (.ref se), (.ref so)] 3)) t := fun t k => castTop (ef_26 m rp se so) k
  have K0 : Keep h0 h0 [rp, ls] := Keep.refl h0 [rp, ls]
  have E1358 := own_str_exa Fb0
  have E1359 := own_str_exa Fb1
  have ne_so_rp : so ≠ rp := Nat.ne_of_lt (Nat.lt_of_lt_of_le (own_str_lt Fb0) zF_rp)
  have ne_so_ls : so ≠ ls := Nat.ne_of_lt (Nat.lt_of_lt_of_le (own_str_lt Fb0) zF_ls)
  have ne_se_rp : se ≠ rp := Nat.ne_of_lt (Nat.lt_of_lt_of_le (own_str_lt Fb1) zF_rp)
  have ne_se_ls : se ≠ ls := Nat.ne_of_lt (Nat.lt_of_lt_of_le (own_str_lt Fb1) zF_ls)
  have pre1360 : ∀ t, Steps p.tables e below (s₁.setTop (mkF m 1 #[rv rp, rv se, rv so] [(.ref rp)])) t → Steps p.tables e below (s₁.setTop (entryFrame m #[(.ref rp), (.ref se), (.ref so)] 3)) t := fun t kt => by
    refine pre0 _ ?_
    show Steps p.tables e below (s₁.setTop (mkF m 0 #[rv rp, rv se, rv so] [])) _
    refine XS.aloadN X0.here hx rfl (hb hby d18_0) rfl rfl ?_
    exact kt
  obtain ⟨T1361, X1361, e1361, st1361⟩ := getF X0 hx hZ hown (host := "") (Or.inl (W 80 rfl)) Via.refl e0 Fi1 (g := (mkF m 1 #[rv rp, rv se, rv so] [(.ref rp)])) rfl rfl (hb hby d18_1)
  have pre1362 : ∀ t, Steps p.tables e below (T1361.setTop (mkF m 4 #[rv rp, rv se, rv so] [(.ref ls)])) t → Steps p.tables e below (s₁.setTop (entryFrame m #[(.ref rp), (.ref se), (.ref so)] 3)) t := fun t kt => pre1360 _ (st1361 _ kt)
  have pre1363 : ∀ t, Steps p.tables e below (T1361.setTop (mkF m 5 #[rv rp, rv se, rv so] [(.ref so), (.ref ls)])) t → Steps p.tables e below (s₁.setTop (entryFrame m #[(.ref rp), (.ref se), (.ref so)] 3)) t := fun t kt => by
    refine pre1362 _ ?_
    show Steps p.tables e below (T1361.setTop (mkF m 4 #[rv rp, rv se, rv so] [(.ref ls)])) _
    refine XS.aloadN X1361.here hx rfl (hb hby d18_4) rfl rfl ?_
    exact kt
  obtain ⟨cq1364, kq1364, q1364a, q1364b, q1364c⟩ := isOf hZ e1361 Fi3
  obtain ⟨_, _, ⟨T1364, L1364, k1364, n1364⟩, -, X1364, ⟨Lc1364, hQ1364, l1364, y1364, z1364⟩, st1364⟩ := X1361.interfaceBack hx (xi := (⟨"java/util/List", "add", "(Ljava/lang/Object;)Z"⟩ : MethodName)) (y := (⟨"java/util/ArrayList", "add", "(Ljava/lang/Object;)Z"⟩ : MethodName)) hown (mvT hZ (W 94 rfl)) (mvT hZ (W 95 rfl)) (mvT hZ (W 96 rfl)) (mvT hZ (W 97 rfl)) (mvT hZ (W 98 rfl)) (mvT hZ (W 99 rfl)) (mvT hZ (W 100 rfl)) (mvT hZ (W 101 rfl)) (by decide) (backOf (W := 0) (rm_add19_0 l Z a0 hw [] ls so ad kd mc h0 n0 O0 G1 G2 g_ls Fi3 Fi4 Fi5 Fi6 (E1358.ext XF0)) hZ (W 102 rfl) (W 58 rfl) (by decide) (by decide)) q1364a q1364b q1364c (g := (mkF m 5 #[rv rp, rv se, rv so] [(.ref so), (.ref ls)])) rfl (by rw [hml]; rfl) (Steps.refl _) (argsL := [(.ref so)]) (rest := []) (lenOf pd_38 rfl) rfl (by show 2 * 0 + _ ≤ _; exact Nat.le_of_eq rfl) (hb hby d18_5) (fun _ _ => ⟨rfl, e1361, (by decide : 0 + 1 ≤ _), (by decide : 0 + 10 ≤ _)⟩)
  dsimp only [Pt.U, Pt.locs, Pt.cells, Pt.slots] at X1364 l1364 y1364 z1364 st1364 hQ1364
  subst l1364 y1364 z1364
  obtain ⟨k1508_1364, b1508_1364, rfl, M1364, Kc1364, O1364, J1364_0, J1364_1, J1364_2, J1364_3, J1364_4, J1364_5, J1364_6, P1364_0⟩ := hQ1364
  obtain ⟨h1364, e1364⟩ : ∃ z, T1364.heap = z := ⟨_, rfl⟩
  rw [e1364] at Kc1364 O1364 J1364_0 J1364_1 J1364_3 J1364_4 J1364_5 J1364_6
  try rw [e1364] at P1364_0
  have N1364 := Fr.app N0 M1364
  have K1364 : Keep h0 h1364 [rp, ls] := K0.trans Kc1364 (own_all1 (Or.inl (List.mem_of_getElem? (i := 1) rfl)))
  have pre1738 : ∀ t, Steps p.tables e below (T1364.setTop (mkF m 10 #[rv rp, rv se, rv so] [(.int (1 : Int32))])) t → Steps p.tables e below (s₁.setTop (entryFrame m #[(.ref rp), (.ref se), (.ref so)] 3)) t := fun t kt => pre1363 _ (st1364.trans kt)
  have XF1739 : Ext hF h1364 := own_ext_keep XF0 Kc1364 (own_all1 zF_ls)
  have F1740 := Fi0.keep Kc1364
  have F1741 := Fi1.keep Kc1364 (own_nm1 qm0)
  have F1742 := Fi2.keep Kc1364 (own_nm1 qm0)
  have sz_b1508_1364 : h0.size ≤ b1508_1364 := Nat.le_trans K0.1 P1364_0
  have ne_ad_b1508_1364 : ad ≠ b1508_1364 := Nat.ne_of_lt (Nat.lt_of_lt_of_le (G2.ext O0.2).lt P1364_0)
  have ne_rp_b1508_1364 : rp ≠ b1508_1364 := Nat.ne_of_lt (Nat.lt_of_lt_of_le Fi0.lt P1364_0)
  have ne_ls_b1508_1364 : ls ≠ b1508_1364 := Nat.ne_of_lt (Nat.lt_of_lt_of_le Fi3.lt P1364_0)
  have ne_so_b1508_1364 : so ≠ b1508_1364 := Nat.ne_of_lt (Nat.lt_of_lt_of_le (own_str_lt (own_str_ext Fb0 XF0)) P1364_0)
  have ne_se_b1508_1364 : se ≠ b1508_1364 := Nat.ne_of_lt (Nat.lt_of_lt_of_le (own_str_lt (own_str_ext Fb1 XF0)) P1364_0)
  have g_b1508_1364 : n0 ≤ b1508_1364 := Nat.le_trans (Nat.le_trans (Nat.le_of_eq O0.1.symm) O0.2.1) sz_b1508_1364
  have zF_b1508_1364 : hF.size ≤ b1508_1364 := Nat.le_trans XF0.1 P1364_0
  have pre1743 : ∀ t, Steps p.tables e below (T1364.setTop (mkF m 13 #[rv rp, rv se, rv so] [(.ref se), (.ref so)])) t → Steps p.tables e below (s₁.setTop (entryFrame m #[(.ref rp), (.ref se), (.ref so)] 3)) t := fun t kt => by
    refine pre1738 _ ?_
    show Steps p.tables e below (T1364.setTop (mkF m 10 #[rv rp, rv se, rv so] [(.int (1 : Int32))])) _
    refine XS.pop X1364.here hx rfl (hb hby d18_10) rfl rfl ?_
    refine XS.aloadN X1364.here hx rfl (hb hby d18_11) rfl rfl ?_
    refine XS.aloadN X1364.here hx rfl (hb hby d18_12) rfl rfl ?_
    exact kt
  obtain ⟨cq1744, kq1744, q1744a, q1744b, q1744c⟩ := isOf hZ e1364 (E1358.ext XF1739)
  obtain ⟨_, _, ⟨T1744, L1744, k1744, n1744⟩, -, X1744, ⟨Lc1744, hQ1744, l1744, y1744, z1744⟩, st1744⟩ := X1364.virtualBack hx (y := (⟨"java/lang/String", "equals", "(Ljava/lang/Object;)Z"⟩ : MethodName)) (z := (⟨"java/lang/String", "equals", "(Ljava/lang/Object;)Z"⟩ : MethodName)) hown (mvT hZ (W 129 rfl)) (mvT hZ (W 130 rfl)) (notFace_of_selects (args := #[]) (mvT hZ (W 132 rfl))) (mvT hZ (W 132 rfl)) (mvT hZ (W 131 rfl)) (by decide) (backOf (W := 0) (rm_equals l Z a0 hw [] so se cz b1 c0 c1 b2 d0 d1 h1364 n0 O1364 G0 (own_str_ext Fb0 XF1739) (own_str_ext Fb1 XF1739) qz qn) hZ (W 133 rfl) (W 9 rfl) (by decide) (by decide)) q1744a q1744c (g := (mkF m 13 #[rv rp, rv se, rv so] [(.ref se), (.ref so)])) rfl (by rw [hml]; rfl) (Steps.refl _) (argsL := [(.ref se)]) (rest := []) (lenOf pd_38 rfl) rfl (by show 2 * 0 + _ ≤ _; exact Nat.le_of_eq rfl) (hb hby d18_13) (fun _ _ => ⟨rfl, e1364, (by decide : 1 + 0 ≤ _), (by decide : 10 + 0 ≤ _)⟩)
  dsimp only [Pt.U, Pt.locs, Pt.cells, Pt.slots] at X1744 l1744 y1744 z1744 st1744 hQ1744
  subst l1744 y1744 z1744
  obtain ⟨rfl, M1744, e1744⟩ := hQ1744
  have N1744 := Fr.app N1364 M1744
  have pre1745 : ∀ t, Steps p.tables e below (T1744.setTop (mkF m 16 #[rv rp, rv se, rv so] [(.int (own_eqv (own_cs b1 c0 c1) (own_cs b2 d0 d1)))])) t → Steps p.tables e below (s₁.setTop (entryFrame m #[(.ref rp), (.ref se), (.ref so)] 3)) t := fun t kt => pre1743 _ (st1744.trans kt)
  by_cases hc1746 : (own_eqv (own_cs b1 c0 c1) (own_cs b2 d0 d1)) = (0 : Int32)
  · have pre1747 : ∀ t, Steps p.tables e below (T1744.setTop (mkF m 21 #[rv rp, rv se, rv so] [(.int (1 : Int32)), (.ref rp)])) t → Steps p.tables e below (s₁.setTop (entryFrame m #[(.ref rp), (.ref se), (.ref so)] 3)) t := fun t kt => by
      refine pre1745 _ ?_
      show Steps p.tables e below (T1744.setTop (mkF m 16 #[rv rp, rv se, rv so] [(.int (own_eqv (own_cs b1 c0 c1) (own_cs b2 d0 d1)))])) _
      refine XS.ifNo X1744.here hx rfl (hb hby d18_16) rfl (XT.i0_ne_f hc1746) ?_
      refine XS.aloadN X1744.here hx rfl (hb hby d18_19) rfl rfl ?_
      refine XS.iconst X1744.here hx rfl (hb hby d18_20) ?_
      exact kt
    obtain ⟨T1748, h1748, X1748, e1748, W1748, st1748⟩ := putFN X1744 hx hZ hown (W 87 rfl) Via.refl e1744 F1742 F1740 (Or.inl (W 88 rfl)) (W 50 rfl) (ty := .boolean) (v' := (.int (1 : Int32))) (by decide) rfl rfl (g := (mkF m 21 #[rv rp, rv se, rv so] [(.int (1 : Int32)), (.ref rp)])) rfl rfl (hb hby d18_21)
    have pre1749 : ∀ t, Steps p.tables e below (T1748.setTop (mkF m 24 #[rv rp, rv se, rv so] [])) t → Steps p.tables e below (s₁.setTop (entryFrame m #[(.ref rp), (.ref se), (.ref so)] 3)) t := fun t kt => pre1747 _ (st1748 _ kt)
    have N1748 := Fr.snoc X1748 N1744 g_rp
    have O1748 := O1364.wr W1748 g_rp
    have K1748 : Keep h0 h1748 [rp, ls] := K1364.wr W1748 (Or.inl (List.mem_of_getElem? (i := 0) rfl))
    have XF1750 : Ext hF h1748 := own_ext_wr XF1739 W1748 zF_rp
    have F1751 := F1740.wr W1748
    have F1752 := F1741.other W1748 (Or.inr (slot_ne (Or.inr (W 81 rfl)) (Or.inl (W 88 rfl)) (by decide) (t := (.object "java/util/List")) (t' := .boolean) (by decide) (by decide)))
    have F1753 := J1364_0.wr W1748
    have F1754 := J1364_1.other W1748 (Or.inl (fun q => qm0 q.symm))
    have F1755 := J1364_3.wr W1748
    have F1756 := J1364_4.other W1748 (Or.inl (fun q => qm0 q.symm))
    have F1757 := J1364_5.other W1748 (fun q => ne_rp_b1508_1364 q.symm)
    have F1758 := J1364_6.other W1748 (Or.inl (fun q => qm0 q.symm))
    have F1759 : Fld Z h1748 rp "com/example/homethread/homethread/cli/ScenarioReport" "differs" "Z" (.int (1 : Int32)) := F1742.same W1748
    have F1760 : Fld Z h1748 rp "com/example/homethread/homethread/cli/ScenarioReport" "differs" "Z" (.int (own_dif df (own_eqv (own_cs b1 c0 c1) (own_cs b2 d0 d1)))) := (by rw [show (own_dif df (own_eqv (own_cs b1 c0 c1) (own_cs b2 d0 d1))) = (1 : Int32) from own_dif0 hc1746]; exact F1759)
    obtain ⟨fs, hr, hrun, hended, hW, hsame⟩ := X1748.leave (v := none) (fun _ => rfl)
    refine ⟨_, _, pre1749 _ (X1748.returnOut hx Bd.returns (hb hby d18_24) hr), hrun, hended, _, _, rfl, ?_, ⟨_, rfl⟩, hW, hsame.mono (by decide) (by decide)⟩
    show Q_line0 Z rp se so cz ad kd ls mc df b1 c0 c1 b2 d0 d1 h0 n0 _ T1748.heap _
    rw [e1748]
    exact ⟨b1508_1364, k1508_1364, rfl, N1748, K1748, O1748, F1751, F1752, F1760, F1753, F1754, F1756, F1758, F1755, F1757, J1364_2, sz_b1508_1364⟩
  · have pre1761 : ∀ t, Steps p.tables e below (T1744.setTop (mkF m 24 #[rv rp, rv se, rv so] [])) t → Steps p.tables e below (s₁.setTop (entryFrame m #[(.ref rp), (.ref se), (.ref so)] 3)) t := fun t kt => by
      refine pre1745 _ ?_
      show Steps p.tables e below (T1744.setTop (mkF m 16 #[rv rp, rv se, rv so] [(.int (own_eqv (own_cs b1 c0 c1) (own_cs b2 d0 d1)))])) _
      refine XS.ifYes X1744.here hx rfl (pc0 := 16) (pc' := 24) rfl (hb hby d18_16) rfl (XT.i0_ne_t hc1746) (by decide) (by decide) ?_
      exact kt
    have F1762 : Fld Z h1364 rp "com/example/homethread/homethread/cli/ScenarioReport" "differs" "Z" (.int (own_dif df (own_eqv (own_cs b1 c0 c1) (own_cs b2 d0 d1)))) := (by rw [show (own_dif df (own_eqv (own_cs b1 c0 c1) (own_cs b2 d0 d1))) = df from own_dif1 hc1746]; exact F1742)
    obtain ⟨fs, hr, hrun, hended, hW, hsame⟩ := X1744.leave (v := none) (fun _ => rfl)
    refine ⟨_, _, pre1761 _ (X1744.returnOut hx Bd.returns (hb hby d18_24) hr), hrun, hended, _, _, rfl, ?_, ⟨_, rfl⟩, hW, hsame.mono (by decide) (by decide)⟩
    show Q_line0 Z rp se so cz ad kd ls mc df b1 c0 c1 b2 d0 d1 h0 n0 _ T1744.heap _
    rw [e1744]
    exact ⟨b1508_1364, k1508_1364, rfl, N1744, K1364, O1364, F1740, F1741, F1762, J1364_0, J1364_1, J1364_4, J1364_6, J1364_3, J1364_5, J1364_2, sz_b1508_1364⟩
def Q_add20_1 (Z : State) (ls : Addr) (so : Addr) (ed : Addr) (v0 : Value) (ked : ClassId) (mc : Int32) (h0 : Heap) (n0 : Nat) (v : Option Value) (h : Heap) (L : List Loc) : Prop := v = none ∧ Fr n0 L ∧ Keep h0 h [ls, ed] ∧ Old Z n0 h ∧ Exa Z h ls "java/util/ArrayList" ∧ Fld Z h ls "java/util/ArrayList" "elementData" "[Ljava/lang/Object;" (.ref ed) ∧ Exa Z h ed "[Ljava/lang/Object;" ∧ Fld Z h ls "java/util/AbstractList" "modCount" "I" (.int (mc + (1 : Int32))) ∧ Arv Z h ed ked (.object "java/lang/Object") (10 : Int32) [v0, (.ref so), .null, .null, .null, .null, .null, .null, .null, .null] .null ∧ Fld Z h ls "java/util/ArrayList" "size" "I" (.int (2 : Int32))
set_option maxRecDepth 65536 in
set_option maxHeartbeats 40000000 in
theorem rm_add20_1 (l : Launch) (Z : State) (a0 : Array Value) (hw : ∀ d ∈ tables_1, d.before a0 Z = true) (ws : List Jvm.Cond) (ls : Addr) (so : Addr) (ed : Addr) (v0 : Value) (ked : ClassId) (mc : Int32) (h0 : Heap) (n0 : Nat) (O0 : Old Z n0 h0) (g_ls : n0 ≤ ls) (g_ed : n0 ≤ ed) (Fi0 : Exa Z h0 ls "java/util/ArrayList") (Fi1 : Fld Z h0 ls "java/util/ArrayList" "elementData" "[Ljava/lang/Object;" (.ref ed)) (Fi2 : Fld Z h0 ls "java/util/ArrayList" "size" "I" (.int (1 : Int32))) (Fi3 : Exa Z h0 ed "[Ljava/lang/Object;") (Fi4 : Arv Z h0 ed ked (.object "java/lang/Object") (10 : Int32) [v0, .null, .null, .null, .null, .null, .null, .null, .null, .null] .null) (Fi5 : Ovr Z ked "java/lang/Object") (Fi6 : Exa Z h0 so "java/lang/String") (Fi7 : Fld Z h0 ls "java/util/AbstractList" "modCount" "I" (.int (mc + (1 : Int32)))) (q0 : ¬ (ed = ls)) :
    MetFree l (⟨"java/util/ArrayList", "add", "(Ljava/lang/Object;[Ljava/lang/Object;I)V"⟩ : MethodName) (head1 (Jvm.Cond.code (⟨"java/util/ArrayList", "add", "(Ljava/lang/Object;[Ljava/lang/Object;I)V"⟩ : MethodName) jdk_38_method_24_code 4 none :: ws) ({ frames := 0, cells := 0, slots := 0, locals := 0 } : Room)) (fun a U => a = #[(.ref ls), (.ref so), (.ref ed), (.int (1 : Int32))] ∧ Z.Warmed39 U.vm ∧ U.heap = h0) (fun _ _ _ _ _ => True) (fun _ U o U' => ∃ v L, o = .returned v ∧ Q_add20_1 Z ls so ed v0 ked mc h0 n0 v U'.heap L ∧ FrameEnd U o U' L ({ frames := 0, cells := 0, slots := 0, locals := 0 } : Room).cells ({ frames := 0, cells := 0, slots := 0, locals := 0 } : Room).slots) := by
  refine MetFree.of_bodySF (plainFor_of_name pn_30) hisR ?_
  intro p e s m args below meth c s₁ Bd hml0 hP hK
  have W := fun {d : Jvm.Cond} (i : Nat) (q : tables_1[i]? = some d) => hw d (List.mem_of_getElem? q)
  obtain ⟨rfl, hZ, hh⟩ := hP
  have hx := Bd.exec
  have hby := Bd.bytes
  have hml : c.maxLocals = 4 := hml0
  have hown : s.vm.findClass "java/util/ArrayList" = some m.cls := findClass_of_methodNamed Bd.named
  have hnm := (name_of_methodNamed Bd.named Bd.method).1
  have X0 : Stand p l e ({ frames := 0, cells := 0, slots := 0, locals := 0 } : Room) s m #[(.ref ls), (.ref so), (.ref ed), (.int (1 : Int32))] below meth c s₁ [] 0 0 := Stand.of_body Bd
  have e0 : s₁.heap = h0 := by rw [← hh, Bd.state]; rfl
  have N0 := Fr.nil n0
  have pre0 : ∀ t, Steps p.tables e below (s₁.setTop (mkF m 0 #[rv ls, rv so, rv ed, iv (1 : Int32)] [])) t → Steps p.tables e below (s₁.setTop (entryFrame m #[(.ref ls), (.ref so), (.ref ed), (.int (1 : Int32))] 4)) t := fun t k => castTop (ef_35 m ls so ed (1 : Int32)) k
  have K0 : Keep h0 h0 [ls, ed] := Keep.refl h0 [ls, ed]
  have pre1872 : ∀ t, Steps p.tables e below (s₁.setTop (mkF m 2 #[rv ls, rv so, rv ed, iv (1 : Int32)] [(.ref ed), (.int (1 : Int32))])) t → Steps p.tables e below (s₁.setTop (entryFrame m #[(.ref ls), (.ref so), (.ref ed), (.int (1 : Int32))] 4)) t := fun t kt => by
    refine pre0 _ ?_
    show Steps p.tables e below (s₁.setTop (mkF m 0 #[rv ls, rv so, rv ed, iv (1 : Int32)] [])) _
    refine XS.iloadN X0.here hx rfl (hb hby d20_0) rfl ?_
    refine XS.aloadN X0.here hx rfl (hb hby d20_1) rfl rfl ?_
    exact kt
  obtain ⟨c1871, Ar1871, -, S1871, M1871, -, -⟩ := id Fi4
  have pre1873 : ∀ t, Steps p.tables e below (s₁.setTop (mkF m 14 #[rv ls, rv so, rv ed, iv (1 : Int32)] [(.ref so), (.int (1 : Int32)), (.ref ed)])) t → Steps p.tables e below (s₁.setTop (entryFrame m #[(.ref ls), (.ref so), (.ref ed), (.int (1 : Int32))] 4)) t := fun t kt => by
    refine pre1872 _ ?_
    show Steps p.tables e below (s₁.setTop (mkF m 2 #[rv ls, rv so, rv ed, iv (1 : Int32)] [(.ref ed), (.int (1 : Int32))])) _
    refine X0.arraylength hx (by rw [e0]; exact Ar1871.1) (State.isArrayOf_alike hZ.alike Ar1871.2.1) (g := (mkF m 2 #[rv ls, rv so, rv ed, iv (1 : Int32)] [(.ref ed), (.int (1 : Int32))])) rfl rfl (hb hby d20_2) _ ?_
    rw [len_of S1871 M1871]
    refine XS.icmpYes X0.here hx rfl (pc0 := 3) (pc' := 11) rfl (hb hby d20_3) rfl (XT.ii_ne_t (by decide)) (by decide) (by decide) ?_
    refine XS.aloadN X0.here hx rfl (hb hby d20_11) rfl rfl ?_
    refine XS.iloadN X0.here hx rfl (hb hby d20_12) rfl ?_
    refine XS.aloadN X0.here hx rfl (hb hby d20_13) rfl rfl ?_
    exact kt
  obtain ⟨c1874, Ar1874, q1874, S1874, M1874, H1874, G1874⟩ := id Fi4
  have i1874 : ¬ ((1 : Int32) < 0 ∨ c1874.slots.size ≤ ((1 : Int32)).toNatClampNeg) := inb_of S1874 ⟨by decide, by decide⟩
  obtain ⟨T1875, h1875, X1875, e1875, W1875, st1875⟩ := stR X0 hx hZ e0 Ar1874 (j := (1 : Int32)) i1874 rfl (Sto.ofV Ar1874 q1874 Fi5 (Ins.of_exa Fi6 (W 128 rfl))) (g := (mkF m 14 #[rv ls, rv so, rv ed, iv (1 : Int32)] [(.ref so), (.int (1 : Int32)), (.ref ed)])) rfl rfl (hb hby d20_14)
  have pre1876 : ∀ t, Steps p.tables e below (T1875.setTop (mkF m 15 #[rv ls, rv so, rv ed, iv (1 : Int32)] [])) t → Steps p.tables e below (s₁.setTop (entryFrame m #[(.ref ls), (.ref so), (.ref ed), (.int (1 : Int32))] 4)) t := fun t kt => pre1873 _ (st1875 _ kt)
  have N1875 := Fr.snoc X1875 N0 g_ed
  have O1875 := O0.wr W1875 g_ed
  have K1875 : Keep h0 h1875 [ls, ed] := K0.wr W1875 (Or.inl (List.mem_of_getElem? (i := 1) rfl))
  have F1877 := Fi0.wr W1875
  have F1878 := Fi1.other W1875 (Or.inl (fun q => q0 q.symm))
  have F1879 := Fi2.other W1875 (Or.inl (fun q => q0 q.symm))
  have F1880 := Fi3.wr W1875
  have F1881 := Fi6.wr W1875
  have F1882 := Fi7.other W1875 (Or.inl (fun q => q0 q.symm))
  have F1883 : Arv Z h1875 ed ked (.object "java/lang/Object") (10 : Int32) [v0, (.ref so), .null, .null, .null, .null, .null, .null, .null, .null] .null := Arv.set Ar1874 q1874 S1874 M1874 H1874 G1874 rfl W1875 1 rfl (Nat.le_of_ble_eq_true rfl)
  have pre1884 : ∀ t, Steps p.tables e below (T1875.setTop (mkF m 19 #[rv ls, rv so, rv ed, iv (1 : Int32)] [(.int (2 : Int32)), (.ref ls)])) t → Steps p.tables e below (s₁.setTop (entryFrame m #[(.ref ls), (.ref so), (.ref ed), (.int (1 : Int32))] 4)) t := fun t kt => by
    refine pre1876 _ ?_
    show Steps p.tables e below (T1875.setTop (mkF m 15 #[rv ls, rv so, rv ed, iv (1 : Int32)] [])) _
    refine XS.aloadN X1875.here hx rfl (hb hby d20_15) rfl rfl ?_
    refine XS.iloadN X1875.here hx rfl (hb hby d20_16) rfl ?_
    refine XS.iconst X1875.here hx rfl (hb hby d20_17) ?_
    refine XS.iadd X1875.here hx rfl (hb hby d20_18) rfl ?_
    show  Steps p.tables e below (T1875.setTop (mkF m 19 #[rv ls, rv so, rv ed, iv (1 : Int32)] [(.int ((1 : Int32) + (1 : Int32))), (.ref ls)])) _
    rw [(by decide : (((1 : Int32) + (1 : Int32)) : Int32) = (2 : Int32))]
    exact kt
  obtain ⟨T1885, h1885, X1885, e1885, W1885, st1885⟩ := putF X1875 hx hZ hown (host := "") (Or.inl (W 105 rfl)) Via.refl e1875 F1879 F1877 (Or.inl (W 106 rfl)) (W 57 rfl) (ty := .int) (by decide) rfl rfl (g := (mkF m 19 #[rv ls, rv so, rv ed, iv (1 : Int32)] [(.int (2 : Int32)), (.ref ls)])) rfl rfl (hb hby d20_19)
  have pre1886 : ∀ t, Steps p.tables e below (T1885.setTop (mkF m 22 #[rv ls, rv so, rv ed, iv (1 : Int32)] [])) t → Steps p.tables e below (s₁.setTop (entryFrame m #[(.ref ls), (.ref so), (.ref ed), (.int (1 : Int32))] 4)) t := fun t kt => pre1884 _ (st1885 _ kt)
  have N1885 := Fr.snoc X1885 N1875 g_ls
  have O1885 := O1875.wr W1885 g_ls
  have K1885 : Keep h0 h1885 [ls, ed] := K1875.wr W1885 (Or.inl (List.mem_of_getElem? (i := 0) rfl))
  have F1887 := F1877.wr W1885
  have F1888 := F1878.other W1885 (Or.inr (slot_ne (Or.inl (W 79 rfl)) (Or.inl (W 106 rfl)) (by decide) (t := (.array (.object "java/lang/Object"))) (t' := .int) (by decide) (by decide)))
  have F1889 := F1880.wr W1885
  have F1890 := F1881.wr W1885
  have F1891 := F1882.other W1885 (Or.inr (slot_ne (Or.inl (W 76 rfl)) (Or.inl (W 106 rfl)) (by decide) (t := .int) (t' := .int) (by decide) (by decide)))
  have F1892 := F1883.other W1885 q0
  have F1893 : Fld Z h1885 ls "java/util/ArrayList" "size" "I" (.int (2 : Int32)) := F1879.same W1885
  obtain ⟨fs, hr, hrun, hended, hW, hsame⟩ := X1885.leave (v := none) (fun _ => rfl)
  refine ⟨_, _, pre1886 _ (X1885.returnOut hx Bd.returns (hb hby d20_22) hr), hrun, hended, _, _, rfl, ?_, ⟨_, rfl⟩, hW, hsame.mono (by decide) (by decide)⟩
  show Q_add20_1 Z ls so ed v0 ked mc h0 n0 _ T1885.heap _
  rw [e1885]
  exact ⟨rfl, N1885, K1885, O1885, F1887, F1888, F1889, F1891, F1892, F1893⟩
def Q_add19_1 (Z : State) (ls : Addr) (so : Addr) (mc : Int32) (ed : Addr) (v0 : Value) (ked : ClassId) (h0 : Heap) (n0 : Nat) (v : Option Value) (h : Heap) (L : List Loc) : Prop := v = some (.int (1 : Int32)) ∧ Fr n0 L ∧ Keep h0 h [ls, ed] ∧ Old Z n0 h ∧ Exa Z h ls "java/util/ArrayList" ∧ Fld Z h ls "java/util/ArrayList" "elementData" "[Ljava/lang/Object;" (.ref ed) ∧ Exa Z h ed "[Ljava/lang/Object;" ∧ Fld Z h ls "java/util/AbstractList" "modCount" "I" (.int (mc + (1 : Int32))) ∧ Arv Z h ed ked (.object "java/lang/Object") (10 : Int32) [v0, (.ref so), .null, .null, .null, .null, .null, .null, .null, .null] .null ∧ Fld Z h ls "java/util/ArrayList" "size" "I" (.int (2 : Int32))
set_option maxRecDepth 65536 in
set_option maxHeartbeats 40000000 in
theorem rm_add19_1 (l : Launch) (Z : State) (a0 : Array Value) (hw : ∀ d ∈ tables_1, d.before a0 Z = true) (ws : List Jvm.Cond) (ls : Addr) (so : Addr) (mc : Int32) (ed : Addr) (v0 : Value) (ked : ClassId) (h0 : Heap) (n0 : Nat) (O0 : Old Z n0 h0) (g_ls : n0 ≤ ls) (g_ed : n0 ≤ ed) (Fi0 : Exa Z h0 ls "java/util/ArrayList") (Fi1 : Fld Z h0 ls "java/util/AbstractList" "modCount" "I" (.int mc)) (Fi2 : Fld Z h0 ls "java/util/ArrayList" "elementData" "[Ljava/lang/Object;" (.ref ed)) (Fi3 : Fld Z h0 ls "java/util/ArrayList" "size" "I" (.int (1 : Int32))) (Fi4 : Exa Z h0 ed "[Ljava/lang/Object;") (Fi5 : Arv Z h0 ed ked (.object "java/lang/Object") (10 : Int32) [v0, .null, .null, .null, .null, .null, .null, .null, .null, .null] .null) (Fi6 : Ovr Z ked "java/lang/Object") (Fi7 : Exa Z h0 so "java/lang/String") (q0 : ¬ (ed = ls)) :
    MetFree l (⟨"java/util/ArrayList", "add", "(Ljava/lang/Object;)Z"⟩ : MethodName) (head1 (Jvm.Cond.code (⟨"java/util/ArrayList", "add", "(Ljava/lang/Object;)Z"⟩ : MethodName) jdk_38_method_25_code 2 (some .boolean) :: ws) ({ frames := 1, cells := 0, slots := 0, locals := 15 } : Room)) (fun a U => a = #[(.ref ls), (.ref so)] ∧ Z.Warmed39 U.vm ∧ U.heap = h0) (fun _ _ _ _ _ => True) (fun _ U o U' => ∃ v L, o = .returned v ∧ Q_add19_1 Z ls so mc ed v0 ked h0 n0 v U'.heap L ∧ FrameEnd U o U' L ({ frames := 1, cells := 0, slots := 0, locals := 15 } : Room).cells ({ frames := 1, cells := 0, slots := 0, locals := 15 } : Room).slots) := by
  refine MetFree.of_bodySF (plainFor_of_name pn_30) hisR ?_
  intro p e s m args below meth c s₁ Bd hml0 hP hK
  have W := fun {d : Jvm.Cond} (i : Nat) (q : tables_1[i]? = some d) => hw d (List.mem_of_getElem? q)
  obtain ⟨rfl, hZ, hh⟩ := hP
  have hx := Bd.exec
  have hby := Bd.bytes
  have hml : c.maxLocals = 2 := hml0
  have hown : s.vm.findClass "java/util/ArrayList" = some m.cls := findClass_of_methodNamed Bd.named
  have hnm := (name_of_methodNamed Bd.named Bd.method).1
  have X0 : Stand p l e ({ frames := 1, cells := 0, slots := 0, locals := 15 } : Room) s m #[(.ref ls), (.ref so)] below meth c s₁ [] 0 0 := Stand.of_body Bd
  have e0 : s₁.heap = h0 := by rw [← hh, Bd.state]; rfl
  have N0 := Fr.nil n0
  have pre0 : ∀ t, Steps p.tables e below (s₁.setTop (mkF m 0 #[rv ls, rv so] [])) t → Steps p.tables e below (s₁.setTop (entryFrame m #[(.ref ls), (.ref so)] 2)) t := fun t k => castTop (ef_37 m ls so) k
  have K0 : Keep h0 h0 [ls, ed] := Keep.refl h0 [ls, ed]
  have pre1947 : ∀ t, Steps p.tables e below (s₁.setTop (mkF m 2 #[rv ls, rv so] [(.ref ls), (.ref ls)])) t → Steps p.tables e below (s₁.setTop (entryFrame m #[(.ref ls), (.ref so)] 2)) t := fun t kt => by
    refine pre0 _ ?_
    show Steps p.tables e below (s₁.setTop (mkF m 0 #[rv ls, rv so] [])) _
    refine XS.aloadN X0.here hx rfl (hb hby d19_0) rfl rfl ?_
    refine XS.dup X0.here hx rfl (hb hby d19_1) rfl rfl ?_
    exact kt
  obtain ⟨T1948, X1948, e1948, st1948⟩ := getF X0 hx hZ hown (host := "") (Or.inl (W 103 rfl)) (Via.of (W 104 rfl)) e0 Fi1 (g := (mkF m 2 #[rv ls, rv so] [(.ref ls), (.ref ls)])) rfl rfl (hb hby d19_2)
  have pre1949 : ∀ t, Steps p.tables e below (T1948.setTop (mkF m 5 #[rv ls, rv so] [(.int mc), (.ref ls)])) t → Steps p.tables e below (s₁.setTop (entryFrame m #[(.ref ls), (.ref so)] 2)) t := fun t kt => pre1947 _ (st1948 _ kt)
  have pre1950 : ∀ t, Steps p.tables e below (T1948.setTop (mkF m 7 #[rv ls, rv so] [(.int (mc + (1 : Int32))), (.ref ls)])) t → Steps p.tables e below (s₁.setTop (entryFrame m #[(.ref ls), (.ref so)] 2)) t := fun t kt => by
    refine pre1949 _ ?_
    show Steps p.tables e below (T1948.setTop (mkF m 5 #[rv ls, rv so] [(.int mc), (.ref ls)])) _
    refine XS.iconst X1948.here hx rfl (hb hby d19_5) ?_
    refine XS.iadd X1948.here hx rfl (hb hby d19_6) rfl ?_
    exact kt
  obtain ⟨T1951, h1951, X1951, e1951, W1951, st1951⟩ := putF X1948 hx hZ hown (host := "") (Or.inl (W 103 rfl)) (Via.of (W 104 rfl)) e1948 Fi1 Fi0 (Or.inl (W 76 rfl)) (W 57 rfl) (ty := .int) (by decide) rfl rfl (g := (mkF m 7 #[rv ls, rv so] [(.int (mc + (1 : Int32))), (.ref ls)])) rfl rfl (hb hby d19_7)
  have pre1952 : ∀ t, Steps p.tables e below (T1951.setTop (mkF m 10 #[rv ls, rv so] [])) t → Steps p.tables e below (s₁.setTop (entryFrame m #[(.ref ls), (.ref so)] 2)) t := fun t kt => pre1950 _ (st1951 _ kt)
  have N1951 := Fr.snoc X1951 N0 g_ls
  have O1951 := O0.wr W1951 g_ls
  have K1951 : Keep h0 h1951 [ls, ed] := K0.wr W1951 (Or.inl (List.mem_of_getElem? (i := 0) rfl))
  have F1953 := Fi0.wr W1951
  have F1954 := Fi2.other W1951 (Or.inr (slot_ne (Or.inl (W 79 rfl)) (Or.inl (W 76 rfl)) (by decide) (t := (.array (.object "java/lang/Object"))) (t' := .int) (by decide) (by decide)))
  have F1955 := Fi3.other W1951 (Or.inr (slot_ne (Or.inl (W 106 rfl)) (Or.inl (W 76 rfl)) (by decide) (t := .int) (t' := .int) (by decide) (by decide)))
  have F1956 := Fi4.wr W1951
  have F1957 := Fi5.other W1951 q0
  have F1958 := Fi7.wr W1951
  have F1959 : Fld Z h1951 ls "java/util/AbstractList" "modCount" "I" (.int (mc + (1 : Int32))) := Fi1.same W1951
  have pre1960 : ∀ t, Steps p.tables e below (T1951.setTop (mkF m 13 #[rv ls, rv so] [(.ref ls), (.ref so), (.ref ls)])) t → Steps p.tables e below (s₁.setTop (entryFrame m #[(.ref ls), (.ref so)] 2)) t := fun t kt => by
    refine pre1952 _ ?_
    show Steps p.tables e below (T1951.setTop (mkF m 10 #[rv ls, rv so] [])) _
    refine XS.aloadN X1951.here hx rfl (hb hby d19_10) rfl rfl ?_
    refine XS.aloadN X1951.here hx rfl (hb hby d19_11) rfl rfl ?_
    refine XS.aloadN X1951.here hx rfl (hb hby d19_12) rfl rfl ?_
    exact kt
  obtain ⟨T1961, X1961, e1961, st1961⟩ := getF X1951 hx hZ hown (host := "") (Or.inl (W 78 rfl)) Via.refl e1951 F1954 (g := (mkF m 13 #[rv ls, rv so] [(.ref ls), (.ref so), (.ref ls)])) rfl rfl (hb hby d19_13)
  have pre1962 : ∀ t, Steps p.tables e below (T1961.setTop (mkF m 16 #[rv ls, rv so] [(.ref ed), (.ref so), (.ref ls)])) t → Steps p.tables e below (s₁.setTop (entryFrame m #[(.ref ls), (.ref so)] 2)) t := fun t kt => pre1960 _ (st1961 _ kt)
  have pre1963 : ∀ t, Steps p.tables e below (T1961.setTop (mkF m 17 #[rv ls, rv so] [(.ref ls), (.ref ed), (.ref so), (.ref ls)])) t → Steps p.tables e below (s₁.setTop (entryFrame m #[(.ref ls), (.ref so)] 2)) t := fun t kt => by
    refine pre1962 _ ?_
    show Steps p.tables e below (T1961.setTop (mkF m 16 #[rv ls, rv so] [(.ref ed), (.ref so), (.ref ls)])) _
    refine XS.aloadN X1961.here hx rfl (hb hby d19_16) rfl rfl ?_
    exact kt
  obtain ⟨T1964, X1964, e1964, st1964⟩ := getF X1961 hx hZ hown (host := "") (Or.inl (W 105 rfl)) Via.refl e1961 F1955 (g := (mkF m 17 #[rv ls, rv so] [(.ref ls), (.ref ed), (.ref so), (.ref ls)])) rfl rfl (hb hby d19_17)
  have pre1965 : ∀ t, Steps p.tables e below (T1964.setTop (mkF m 20 #[rv ls, rv so] [(.int (1 : Int32)), (.ref ed), (.ref so), (.ref ls)])) t → Steps p.tables e below (s₁.setTop (entryFrame m #[(.ref ls), (.ref so)] 2)) t := fun t kt => pre1963 _ (st1964 _ kt)
  obtain ⟨cq1966, q1966, q1966'⟩ := (F1953).cell
  obtain ⟨_, _, ⟨T1966, L1966, k1966, n1966⟩, -, X1966, ⟨Lc1966, hQ1966, l1966, y1966, z1966⟩, st1966⟩ := X1964.privateBack hx (y := (⟨"java/util/ArrayList", "add", "(Ljava/lang/Object;[Ljava/lang/Object;I)V"⟩ : MethodName)) hown (mvT hZ (W 107 rfl)) (mvT hZ (W 108 rfl)) (mvT hZ (W 110 rfl)) (Cond.privateMethod_at (mvP hZ (W 109 rfl) (args := #[]))) (mvT hZ (W 111 rfl)) (by decide) (backOf (W := 0) (rm_add20_1 l Z a0 hw [] ls so ed v0 ked mc h1951 n0 O1951 g_ls g_ed F1953 F1954 F1955 F1956 F1957 Fi6 F1958 F1959 q0) hZ (W 111 rfl) (W 58 rfl) (by decide) (by decide)) (g := (mkF m 20 #[rv ls, rv so] [(.int (1 : Int32)), (.ref ed), (.ref so), (.ref ls)])) rfl (by rw [hml]; rfl) (Steps.refl _) (a := ls) (by rw [e1964]; exact q1966) q1966' (argsL := [(.ref so), (.ref ed), (.int (1 : Int32))]) (rest := []) (lenOf pd_36 rfl) rfl (by show 2 * 0 + _ ≤ _; exact Nat.le_of_eq rfl) (hb hby d19_20) (fun _ _ => ⟨rfl, e1964, (by decide : 0 + 0 ≤ _), (by decide : 0 + 0 ≤ _)⟩)
  dsimp only [Pt.U, Pt.locs, Pt.cells, Pt.slots] at X1966 l1966 y1966 z1966 st1966 hQ1966
  subst l1966 y1966 z1966
  obtain ⟨rfl, M1966, Kc1966, O1966, J1966_0, J1966_1, J1966_2, J1966_3, J1966_4, J1966_5⟩ := hQ1966
  obtain ⟨h1966, e1966⟩ : ∃ z, T1966.heap = z := ⟨_, rfl⟩
  rw [e1966] at Kc1966 O1966 J1966_0 J1966_1 J1966_2 J1966_3 J1966_4 J1966_5
  have N1966 := Fr.app N1951 M1966
  have K1966 : Keep h0 h1966 [ls, ed] := K1951.trans Kc1966 (own_all2 (Or.inl (List.mem_of_getElem? (i := 0) rfl)) (Or.inl (List.mem_of_getElem? (i := 1) rfl)))
  have pre1967 : ∀ t, Steps p.tables e below (T1966.setTop (mkF m 23 #[rv ls, rv so] [])) t → Steps p.tables e below (s₁.setTop (entryFrame m #[(.ref ls), (.ref so)] 2)) t := fun t kt => pre1965 _ (st1966.trans kt)
  have F1968 := F1958.keep Kc1966
  have pre1969 : ∀ t, Steps p.tables e below (T1966.setTop (mkF m 24 #[rv ls, rv so] [(.int (1 : Int32))])) t → Steps p.tables e below (s₁.setTop (entryFrame m #[(.ref ls), (.ref so)] 2)) t := fun t kt => by
    refine pre1967 _ ?_
    show Steps p.tables e below (T1966.setTop (mkF m 23 #[rv ls, rv so] [])) _
    refine XS.iconst X1966.here hx rfl (hb hby d19_23) ?_
    exact kt
  obtain ⟨fs, hr, hrun, hended, hW, hsame⟩ := X1966.leave (v := some (.int (1 : Int32))) (fun h => by rw [Bd.returns] at h; cases h)
  refine ⟨_, _, pre1969 _ (retN X1966 hx (t := .boolean) Bd.returns (by simp) (hb hby d19_24) hr), hrun, hended, _, _, rfl, ?_, ⟨_, rfl⟩, hW, hsame.mono (by decide) (by decide)⟩
  show Q_add19_1 Z ls so mc ed v0 ked h0 n0 _ T1966.heap _
  rw [e1966]
  exact ⟨rfl, N1966, K1966, O1966, J1966_0, J1966_1, J1966_2, J1966_3, J1966_4, J1966_5⟩
def Q_line1 (Z : State) (rp : Addr) (se : Addr) (so : Addr) (cz : Int32) (ad : Addr) (kd : ClassId) (ls : Addr) (mc : Int32) (df : Int32) (b1 : Int32) (c0 : Int32) (c1 : Int32) (b2 : Int32) (d0 : Int32) (d1 : Int32) (ed : Addr) (ked : ClassId) (v0 : Value) (h0 : Heap) (n0 : Nat) (v : Option Value) (h : Heap) (L : List Loc) : Prop := v = none ∧ Fr n0 L ∧ Keep h0 h [rp, ls, ed] ∧ Old Z n0 h ∧ Exa Z h rp "com/example/homethread/homethread/cli/ScenarioReport" ∧ Fld Z h rp "com/example/homethread/homethread/cli/ScenarioReport" "lines" "Ljava/util/List;" (.ref ls) ∧ Fld Z h rp "com/example/homethread/homethread/cli/ScenarioReport" "differs" "Z" (.int (own_dif df (own_eqv (own_cs b1 c0 c1) (own_cs b2 d0 d1)))) ∧ Exa Z h ls "java/util/ArrayList" ∧ Fld Z h ls "java/util/AbstractList" "modCount" "I" (.int (mc + (1 : Int32))) ∧ Fld Z h ls "java/util/ArrayList" "elementData" "[Ljava/lang/Object;" (.ref ed) ∧ Fld Z h ls "java/util/ArrayList" "size" "I" (.int (2 : Int32)) ∧ Exa Z h ed "[Ljava/lang/Object;" ∧ Arv Z h ed ked (.object "java/lang/Object") (10 : Int32) [v0, (.ref so), .null, .null, .null, .null, .null, .null, .null, .null] .null ∧ Ovr Z ked "java/lang/Object"
set_option maxRecDepth 65536 in
set_option maxHeartbeats 40000000 in
theorem rm_line1 (l : Launch) (Z : State) (a0 : Array Value) (hw : ∀ d ∈ tables_1, d.before a0 Z = true) (ws : List Jvm.Cond) (rp : Addr) (se : Addr) (so : Addr) (cz : Int32) (ad : Addr) (kd : ClassId) (ls : Addr) (mc : Int32) (df : Int32) (b1 : Int32) (c0 : Int32) (c1 : Int32) (b2 : Int32) (d0 : Int32) (d1 : Int32) (ed : Addr) (ked : ClassId) (v0 : Value) (h0 : Heap) (n0 : Nat) (O0 : Old Z n0 h0) (G0 : Sta Z Z.heap "java/lang/String" "COMPACT_STRINGS" "Z" (.int cz)) (G1 : Sta Z Z.heap "java/util/ArrayList" "DEFAULTCAPACITY_EMPTY_ELEMENTDATA" "[Ljava/lang/Object;" (.ref ad)) (G2 : Arv Z Z.heap ad kd (.object "java/lang/Object") (0 : Int32) [] .null) (G3 : Exa Z Z.heap ad "[Ljava/lang/Object;") (g_rp : n0 ≤ rp) (g_ls : n0 ≤ ls) (g_ed : n0 ≤ ed) (Fi0 : Exa Z h0 rp "com/example/homethread/homethread/cli/ScenarioReport") (Fi1 : Fld Z h0 rp "com/example/homethread/homethread/cli/ScenarioReport" "lines" "Ljava/util/List;" (.ref ls)) (Fi2 : Fld Z h0 rp "com/example/homethread/homethread/cli/ScenarioReport" "differs" "Z" (.int df)) (Fi3 : Exa Z h0 ls "java/util/ArrayList") (Fi4 : Fld Z h0 ls "java/util/AbstractList" "modCount" "I" (.int mc)) (Fi5 : Fld Z h0 ls "java/util/ArrayList" "elementData" "[Ljava/lang/Object;" (.ref ed)) (Fi6 : Fld Z h0 ls "java/util/ArrayList" "size" "I" (.int (1 : Int32))) (Fi7 : Exa Z h0 ed "[Ljava/lang/Object;") (Fi8 : Arv Z h0 ed ked (.object "java/lang/Object") (10 : Int32) [v0, .null, .null, .null, .null, .null, .null, .null, .null, .null] .null) (Fi9 : Ovr Z ked "java/lang/Object") (qz : ¬ (cz = (0 : Int32))) (qn : ¬ (so = se)) (qd : own_bit df) (qm0 : ¬ (rp = ls)) (qm1 : ¬ (rp = ed)) (qm2 : ¬ (ls = ed)) (hF : Heap) (XF0 : Ext hF h0) (Fb0 : own_str Z hF so b1 c0 c1) (Fb1 : own_str Z hF se b2 d0 d1) (zF_rp : hF.size ≤ rp) (zF_ls : hF.size ≤ ls) (zF_ed : hF.size ≤ ed) :
    MetFree l (⟨"com/example/homethread/homethread/cli/ScenarioReport", "expectLine", "(Ljava/lang/String;Ljava/lang/String;)V"⟩ : MethodName) (head1 (Jvm.Cond.code (⟨"com/example/homethread/homethread/cli/ScenarioReport", "expectLine", "(Ljava/lang/String;Ljava/lang/String;)V"⟩ : MethodName) prog_42_method_3_code 3 none :: ws) ({ frames := 2, cells := 0, slots := 0, locals := 28 } : Room)) (fun a U => a = #[(.ref rp), (.ref se), (.ref so)] ∧ Z.Warmed39 U.vm ∧ U.heap = h0) (fun _ _ _ _ _ => True) (fun _ U o U' => ∃ v L, o = .returned v ∧ Q_line1 Z rp se so cz ad kd ls mc df b1 c0 c1 b2 d0 d1 ed ked v0 h0 n0 v U'.heap L ∧ FrameEnd U o U' L ({ frames := 2, cells := 0, slots := 0, locals := 28 } : Room).cells ({ frames := 2, cells := 0, slots := 0, locals := 28 } : Room).slots) := by
  refine MetFree.of_bodySF (plainFor_of_name pn_25) hisR ?_
  intro p e s m args below meth c s₁ Bd hml0 hP hK
  have W := fun {d : Jvm.Cond} (i : Nat) (q : tables_1[i]? = some d) => hw d (List.mem_of_getElem? q)
  obtain ⟨rfl, hZ, hh⟩ := hP
  have hx := Bd.exec
  have hby := Bd.bytes
  have hml : c.maxLocals = 3 := hml0
  have hown : s.vm.findClass "com/example/homethread/homethread/cli/ScenarioReport" = some m.cls := findClass_of_methodNamed Bd.named
  have hnm := (name_of_methodNamed Bd.named Bd.method).1
  have X0 : Stand p l e ({ frames := 2, cells := 0, slots := 0, locals := 28 } : Room) s m #[(.ref rp), (.ref se), (.ref so)] below meth c s₁ [] 0 0 := Stand.of_body Bd
  have e0 : s₁.heap = h0 := by rw [← hh, Bd.state]; rfl
  have N0 := Fr.nil n0
  have pre0 : ∀ t, Steps p.tables e below (s₁.setTop (mkF m 0 #[rv rp, rv se, rv so] [])) t → Steps p.tables e below (s₁.setTop (entryFrame m #[(.ref rp), (.ref se), (.ref so)] 3)) t := fun t k => castTop (ef_26 m rp se so) k
  have K0 : Keep h0 h0 [rp, ls, ed] := Keep.refl h0 [rp, ls, ed]
  have E1763 := own_str_exa Fb0
  have E1764 := own_str_exa Fb1
  have ne_so_rp : so ≠ rp := Nat.ne_of_lt (Nat.lt_of_lt_of_le (own_str_lt Fb0) zF_rp)
  have ne_so_ls : so ≠ ls := Nat.ne_of_lt (Nat.lt_of_lt_of_le (own_str_lt Fb0) zF_ls)
  have ne_so_ed : so ≠ ed := Nat.ne_of_lt (Nat.lt_of_lt_of_le (own_str_lt Fb0) zF_ed)
  have ne_se_rp : se ≠ rp := Nat.ne_of_lt (Nat.lt_of_lt_of_le (own_str_lt Fb1) zF_rp)
  have ne_se_ls : se ≠ ls := Nat.ne_of_lt (Nat.lt_of_lt_of_le (own_str_lt Fb1) zF_ls)
  have ne_se_ed : se ≠ ed := Nat.ne_of_lt (Nat.lt_of_lt_of_le (own_str_lt Fb1) zF_ed)
  have pre1765 : ∀ t, Steps p.tables e below (s₁.setTop (mkF m 1 #[rv rp, rv se, rv so] [(.ref rp)])) t → Steps p.tables e below (s₁.setTop (entryFrame m #[(.ref rp), (.ref se), (.ref so)] 3)) t := fun t kt => by
    refine pre0 _ ?_
    show Steps p.tables e below (s₁.setTop (mkF m 0 #[rv rp, rv se, rv so] [])) _
    refine XS.aloadN X0.here hx rfl (hb hby d18_0) rfl rfl ?_
    exact kt
  obtain ⟨T1766, X1766, e1766, st1766⟩ := getF X0 hx hZ hown (host := "") (Or.inl (W 80 rfl)) Via.refl e0 Fi1 (g := (mkF m 1 #[rv rp, rv se, rv so] [(.ref rp)])) rfl rfl (hb hby d18_1)
  have pre1767 : ∀ t, Steps p.tables e below (T1766.setTop (mkF m 4 #[rv rp, rv se, rv so] [(.ref ls)])) t → Steps p.tables e below (s₁.setTop (entryFrame m #[(.ref rp), (.ref se), (.ref so)] 3)) t := fun t kt => pre1765 _ (st1766 _ kt)
  have pre1768 : ∀ t, Steps p.tables e below (T1766.setTop (mkF m 5 #[rv rp, rv se, rv so] [(.ref so), (.ref ls)])) t → Steps p.tables e below (s₁.setTop (entryFrame m #[(.ref rp), (.ref se), (.ref so)] 3)) t := fun t kt => by
    refine pre1767 _ ?_
    show Steps p.tables e below (T1766.setTop (mkF m 4 #[rv rp, rv se, rv so] [(.ref ls)])) _
    refine XS.aloadN X1766.here hx rfl (hb hby d18_4) rfl rfl ?_
    exact kt
  obtain ⟨cq1769, kq1769, q1769a, q1769b, q1769c⟩ := isOf hZ e1766 Fi3
  obtain ⟨_, _, ⟨T1769, L1769, k1769, n1769⟩, -, X1769, ⟨Lc1769, hQ1769, l1769, y1769, z1769⟩, st1769⟩ := X1766.interfaceBack hx (xi := (⟨"java/util/List", "add", "(Ljava/lang/Object;)Z"⟩ : MethodName)) (y := (⟨"java/util/ArrayList", "add", "(Ljava/lang/Object;)Z"⟩ : MethodName)) hown (mvT hZ (W 94 rfl)) (mvT hZ (W 95 rfl)) (mvT hZ (W 96 rfl)) (mvT hZ (W 97 rfl)) (mvT hZ (W 98 rfl)) (mvT hZ (W 99 rfl)) (mvT hZ (W 100 rfl)) (mvT hZ (W 101 rfl)) (by decide) (backOf (W := 0) (rm_add19_1 l Z a0 hw [] ls so mc ed v0 ked h0 n0 O0 g_ls g_ed Fi3 Fi4 Fi5 Fi6 Fi7 Fi8 Fi9 (E1763.ext XF0) (fun q => qm2 q.symm)) hZ (W 102 rfl) (W 58 rfl) (by decide) (by decide)) q1769a q1769b q1769c (g := (mkF m 5 #[rv rp, rv se, rv so] [(.ref so), (.ref ls)])) rfl (by rw [hml]; rfl) (Steps.refl _) (argsL := [(.ref so)]) (rest := []) (lenOf pd_38 rfl) rfl (by show 2 * 0 + _ ≤ _; exact Nat.le_of_eq rfl) (hb hby d18_5) (fun _ _ => ⟨rfl, e1766, (by decide : 0 + 0 ≤ _), (by decide : 0 + 0 ≤ _)⟩)
  dsimp only [Pt.U, Pt.locs, Pt.cells, Pt.slots] at X1769 l1769 y1769 z1769 st1769 hQ1769
  subst l1769 y1769 z1769
  obtain ⟨rfl, M1769, Kc1769, O1769, J1769_0, J1769_1, J1769_2, J1769_3, J1769_4, J1769_5⟩ := hQ1769
  obtain ⟨h1769, e1769⟩ : ∃ z, T1769.heap = z := ⟨_, rfl⟩
  rw [e1769] at Kc1769 O1769 J1769_0 J1769_1 J1769_2 J1769_3 J1769_4 J1769_5
  have N1769 := Fr.app N0 M1769
  have K1769 : Keep h0 h1769 [rp, ls, ed] := K0.trans Kc1769 (own_all2 (Or.inl (List.mem_of_getElem? (i := 1) rfl)) (Or.inl (List.mem_of_getElem? (i := 2) rfl)))
  have pre1970 : ∀ t, Steps p.tables e below (T1769.setTop (mkF m 10 #[rv rp, rv se, rv so] [(.int (1 : Int32))])) t → Steps p.tables e below (s₁.setTop (entryFrame m #[(.ref rp), (.ref se), (.ref so)] 3)) t := fun t kt => pre1768 _ (st1769.trans kt)
  have XF1971 : Ext hF h1769 := own_ext_keep XF0 Kc1769 (own_all2 zF_ls zF_ed)
  have F1972 := Fi0.keep Kc1769
  have F1973 := Fi1.keep Kc1769 (own_nm2 qm0 qm1)
  have F1974 := Fi2.keep Kc1769 (own_nm2 qm0 qm1)
  have pre1975 : ∀ t, Steps p.tables e below (T1769.setTop (mkF m 13 #[rv rp, rv se, rv so] [(.ref se), (.ref so)])) t → Steps p.tables e below (s₁.setTop (entryFrame m #[(.ref rp), (.ref se), (.ref so)] 3)) t := fun t kt => by
    refine pre1970 _ ?_
    show Steps p.tables e below (T1769.setTop (mkF m 10 #[rv rp, rv se, rv so] [(.int (1 : Int32))])) _
    refine XS.pop X1769.here hx rfl (hb hby d18_10) rfl rfl ?_
    refine XS.aloadN X1769.here hx rfl (hb hby d18_11) rfl rfl ?_
    refine XS.aloadN X1769.here hx rfl (hb hby d18_12) rfl rfl ?_
    exact kt
  obtain ⟨cq1976, kq1976, q1976a, q1976b, q1976c⟩ := isOf hZ e1769 (E1763.ext XF1971)
  obtain ⟨_, _, ⟨T1976, L1976, k1976, n1976⟩, -, X1976, ⟨Lc1976, hQ1976, l1976, y1976, z1976⟩, st1976⟩ := X1769.virtualBack hx (y := (⟨"java/lang/String", "equals", "(Ljava/lang/Object;)Z"⟩ : MethodName)) (z := (⟨"java/lang/String", "equals", "(Ljava/lang/Object;)Z"⟩ : MethodName)) hown (mvT hZ (W 129 rfl)) (mvT hZ (W 130 rfl)) (notFace_of_selects (args := #[]) (mvT hZ (W 132 rfl))) (mvT hZ (W 132 rfl)) (mvT hZ (W 131 rfl)) (by decide) (backOf (W := 0) (rm_equals l Z a0 hw [] so se cz b1 c0 c1 b2 d0 d1 h1769 n0 O1769 G0 (own_str_ext Fb0 XF1971) (own_str_ext Fb1 XF1971) qz qn) hZ (W 133 rfl) (W 9 rfl) (by decide) (by decide)) q1976a q1976c (g := (mkF m 13 #[rv rp, rv se, rv so] [(.ref se), (.ref so)])) rfl (by rw [hml]; rfl) (Steps.refl _) (argsL := [(.ref se)]) (rest := []) (lenOf pd_38 rfl) rfl (by show 2 * 0 + _ ≤ _; exact Nat.le_of_eq rfl) (hb hby d18_13) (fun _ _ => ⟨rfl, e1769, (by decide : 0 + 0 ≤ _), (by decide : 0 + 0 ≤ _)⟩)
  dsimp only [Pt.U, Pt.locs, Pt.cells, Pt.slots] at X1976 l1976 y1976 z1976 st1976 hQ1976
  subst l1976 y1976 z1976
  obtain ⟨rfl, M1976, e1976⟩ := hQ1976
  have N1976 := Fr.app N1769 M1976
  have pre1977 : ∀ t, Steps p.tables e below (T1976.setTop (mkF m 16 #[rv rp, rv se, rv so] [(.int (own_eqv (own_cs b1 c0 c1) (own_cs b2 d0 d1)))])) t → Steps p.tables e below (s₁.setTop (entryFrame m #[(.ref rp), (.ref se), (.ref so)] 3)) t := fun t kt => pre1975 _ (st1976.trans kt)
  by_cases hc1978 : (own_eqv (own_cs b1 c0 c1) (own_cs b2 d0 d1)) = (0 : Int32)
  · have pre1979 : ∀ t, Steps p.tables e below (T1976.setTop (mkF m 21 #[rv rp, rv se, rv so] [(.int (1 : Int32)), (.ref rp)])) t → Steps p.tables e below (s₁.setTop (entryFrame m #[(.ref rp), (.ref se), (.ref so)] 3)) t := fun t kt => by
      refine pre1977 _ ?_
      show Steps p.tables e below (T1976.setTop (mkF m 16 #[rv rp, rv se, rv so] [(.int (own_eqv (own_cs b1 c0 c1) (own_cs b2 d0 d1)))])) _
      refine XS.ifNo X1976.here hx rfl (hb hby d18_16) rfl (XT.i0_ne_f hc1978) ?_
      refine XS.aloadN X1976.here hx rfl (hb hby d18_19) rfl rfl ?_
      refine XS.iconst X1976.here hx rfl (hb hby d18_20) ?_
      exact kt
    obtain ⟨T1980, h1980, X1980, e1980, W1980, st1980⟩ := putFN X1976 hx hZ hown (W 87 rfl) Via.refl e1976 F1974 F1972 (Or.inl (W 88 rfl)) (W 50 rfl) (ty := .boolean) (v' := (.int (1 : Int32))) (by decide) rfl rfl (g := (mkF m 21 #[rv rp, rv se, rv so] [(.int (1 : Int32)), (.ref rp)])) rfl rfl (hb hby d18_21)
    have pre1981 : ∀ t, Steps p.tables e below (T1980.setTop (mkF m 24 #[rv rp, rv se, rv so] [])) t → Steps p.tables e below (s₁.setTop (entryFrame m #[(.ref rp), (.ref se), (.ref so)] 3)) t := fun t kt => pre1979 _ (st1980 _ kt)
    have N1980 := Fr.snoc X1980 N1976 g_rp
    have O1980 := O1769.wr W1980 g_rp
    have K1980 : Keep h0 h1980 [rp, ls, ed] := K1769.wr W1980 (Or.inl (List.mem_of_getElem? (i := 0) rfl))
    have XF1982 : Ext hF h1980 := own_ext_wr XF1971 W1980 zF_rp
    have F1983 := F1972.wr W1980
    have F1984 := F1973.other W1980 (Or.inr (slot_ne (Or.inr (W 81 rfl)) (Or.inl (W 88 rfl)) (by decide) (t := (.object "java/util/List")) (t' := .boolean) (by decide) (by decide)))
    have F1985 := J1769_0.wr W1980
    have F1986 := J1769_1.other W1980 (Or.inl (fun q => qm0 q.symm))
    have F1987 := J1769_2.wr W1980
    have F1988 := J1769_3.other W1980 (Or.inl (fun q => qm0 q.symm))
    have F1989 := J1769_4.other W1980 (fun q => qm1 q.symm)
    have F1990 := J1769_5.other W1980 (Or.inl (fun q => qm0 q.symm))
    have F1991 : Fld Z h1980 rp "com/example/homethread/homethread/cli/ScenarioReport" "differs" "Z" (.int (1 : Int32)) := F1974.same W1980
    have F1992 : Fld Z h1980 rp "com/example/homethread/homethread/cli/ScenarioReport" "differs" "Z" (.int (own_dif df (own_eqv (own_cs b1 c0 c1) (own_cs b2 d0 d1)))) := (by rw [show (own_dif df (own_eqv (own_cs b1 c0 c1) (own_cs b2 d0 d1))) = (1 : Int32) from own_dif0 hc1978]; exact F1991)
    obtain ⟨fs, hr, hrun, hended, hW, hsame⟩ := X1980.leave (v := none) (fun _ => rfl)
    refine ⟨_, _, pre1981 _ (X1980.returnOut hx Bd.returns (hb hby d18_24) hr), hrun, hended, _, _, rfl, ?_, ⟨_, rfl⟩, hW, hsame.mono (by decide) (by decide)⟩
    show Q_line1 Z rp se so cz ad kd ls mc df b1 c0 c1 b2 d0 d1 ed ked v0 h0 n0 _ T1980.heap _
    rw [e1980]
    exact ⟨rfl, N1980, K1980, O1980, F1983, F1984, F1992, F1985, F1988, F1986, F1990, F1987, F1989, Fi9⟩
  · have pre1993 : ∀ t, Steps p.tables e below (T1976.setTop (mkF m 24 #[rv rp, rv se, rv so] [])) t → Steps p.tables e below (s₁.setTop (entryFrame m #[(.ref rp), (.ref se), (.ref so)] 3)) t := fun t kt => by
      refine pre1977 _ ?_
      show Steps p.tables e below (T1976.setTop (mkF m 16 #[rv rp, rv se, rv so] [(.int (own_eqv (own_cs b1 c0 c1) (own_cs b2 d0 d1)))])) _
      refine XS.ifYes X1976.here hx rfl (pc0 := 16) (pc' := 24) rfl (hb hby d18_16) rfl (XT.i0_ne_t hc1978) (by decide) (by decide) ?_
      exact kt
    have F1994 : Fld Z h1769 rp "com/example/homethread/homethread/cli/ScenarioReport" "differs" "Z" (.int (own_dif df (own_eqv (own_cs b1 c0 c1) (own_cs b2 d0 d1)))) := (by rw [show (own_dif df (own_eqv (own_cs b1 c0 c1) (own_cs b2 d0 d1))) = df from own_dif1 hc1978]; exact F1974)
    obtain ⟨fs, hr, hrun, hended, hW, hsame⟩ := X1976.leave (v := none) (fun _ => rfl)
    refine ⟨_, _, pre1993 _ (X1976.returnOut hx Bd.returns (hb hby d18_24) hr), hrun, hended, _, _, rfl, ?_, ⟨_, rfl⟩, hW, hsame.mono (by decide) (by decide)⟩
    show Q_line1 Z rp se so cz ad kd ls mc df b1 c0 c1 b2 d0 d1 ed ked v0 h0 n0 _ T1976.heap _
    rw [e1976]
    exact ⟨rfl, N1976, K1769, O1769, F1972, F1973, F1994, J1769_0, J1769_3, J1769_1, J1769_5, J1769_2, J1769_4, Fi9⟩
def Q_add20_2 (Z : State) (ls : Addr) (so : Addr) (ed : Addr) (v0 : Value) (v1 : Value) (ked : ClassId) (mc : Int32) (h0 : Heap) (n0 : Nat) (v : Option Value) (h : Heap) (L : List Loc) : Prop := v = none ∧ Fr n0 L ∧ Keep h0 h [ls, ed] ∧ Old Z n0 h ∧ Exa Z h ls "java/util/ArrayList" ∧ Fld Z h ls "java/util/ArrayList" "elementData" "[Ljava/lang/Object;" (.ref ed) ∧ Exa Z h ed "[Ljava/lang/Object;" ∧ Fld Z h ls "java/util/AbstractList" "modCount" "I" (.int (mc + (1 : Int32))) ∧ Arv Z h ed ked (.object "java/lang/Object") (10 : Int32) [v0, v1, (.ref so), .null, .null, .null, .null, .null, .null, .null] .null ∧ Fld Z h ls "java/util/ArrayList" "size" "I" (.int (3 : Int32))
set_option maxRecDepth 65536 in
set_option maxHeartbeats 40000000 in
theorem rm_add20_2 (l : Launch) (Z : State) (a0 : Array Value) (hw : ∀ d ∈ tables_1, d.before a0 Z = true) (ws : List Jvm.Cond) (ls : Addr) (so : Addr) (ed : Addr) (v0 : Value) (v1 : Value) (ked : ClassId) (mc : Int32) (h0 : Heap) (n0 : Nat) (O0 : Old Z n0 h0) (g_ls : n0 ≤ ls) (g_ed : n0 ≤ ed) (Fi0 : Exa Z h0 ls "java/util/ArrayList") (Fi1 : Fld Z h0 ls "java/util/ArrayList" "elementData" "[Ljava/lang/Object;" (.ref ed)) (Fi2 : Fld Z h0 ls "java/util/ArrayList" "size" "I" (.int (2 : Int32))) (Fi3 : Exa Z h0 ed "[Ljava/lang/Object;") (Fi4 : Arv Z h0 ed ked (.object "java/lang/Object") (10 : Int32) [v0, v1, .null, .null, .null, .null, .null, .null, .null, .null] .null) (Fi5 : Ovr Z ked "java/lang/Object") (Fi6 : Exa Z h0 so "java/lang/String") (Fi7 : Fld Z h0 ls "java/util/AbstractList" "modCount" "I" (.int (mc + (1 : Int32)))) (q0 : ¬ (ed = ls)) :
    MetFree l (⟨"java/util/ArrayList", "add", "(Ljava/lang/Object;[Ljava/lang/Object;I)V"⟩ : MethodName) (head1 (Jvm.Cond.code (⟨"java/util/ArrayList", "add", "(Ljava/lang/Object;[Ljava/lang/Object;I)V"⟩ : MethodName) jdk_38_method_24_code 4 none :: ws) ({ frames := 0, cells := 0, slots := 0, locals := 0 } : Room)) (fun a U => a = #[(.ref ls), (.ref so), (.ref ed), (.int (2 : Int32))] ∧ Z.Warmed39 U.vm ∧ U.heap = h0) (fun _ _ _ _ _ => True) (fun _ U o U' => ∃ v L, o = .returned v ∧ Q_add20_2 Z ls so ed v0 v1 ked mc h0 n0 v U'.heap L ∧ FrameEnd U o U' L ({ frames := 0, cells := 0, slots := 0, locals := 0 } : Room).cells ({ frames := 0, cells := 0, slots := 0, locals := 0 } : Room).slots) := by
  refine MetFree.of_bodySF (plainFor_of_name pn_30) hisR ?_
  intro p e s m args below meth c s₁ Bd hml0 hP hK
  have W := fun {d : Jvm.Cond} (i : Nat) (q : tables_1[i]? = some d) => hw d (List.mem_of_getElem? q)
  obtain ⟨rfl, hZ, hh⟩ := hP
  have hx := Bd.exec
  have hby := Bd.bytes
  have hml : c.maxLocals = 4 := hml0
  have hown : s.vm.findClass "java/util/ArrayList" = some m.cls := findClass_of_methodNamed Bd.named
  have hnm := (name_of_methodNamed Bd.named Bd.method).1
  have X0 : Stand p l e ({ frames := 0, cells := 0, slots := 0, locals := 0 } : Room) s m #[(.ref ls), (.ref so), (.ref ed), (.int (2 : Int32))] below meth c s₁ [] 0 0 := Stand.of_body Bd
  have e0 : s₁.heap = h0 := by rw [← hh, Bd.state]; rfl
  have N0 := Fr.nil n0
  have pre0 : ∀ t, Steps p.tables e below (s₁.setTop (mkF m 0 #[rv ls, rv so, rv ed, iv (2 : Int32)] [])) t → Steps p.tables e below (s₁.setTop (entryFrame m #[(.ref ls), (.ref so), (.ref ed), (.int (2 : Int32))] 4)) t := fun t k => castTop (ef_35 m ls so ed (2 : Int32)) k
  have K0 : Keep h0 h0 [ls, ed] := Keep.refl h0 [ls, ed]
  have pre2104 : ∀ t, Steps p.tables e below (s₁.setTop (mkF m 2 #[rv ls, rv so, rv ed, iv (2 : Int32)] [(.ref ed), (.int (2 : Int32))])) t → Steps p.tables e below (s₁.setTop (entryFrame m #[(.ref ls), (.ref so), (.ref ed), (.int (2 : Int32))] 4)) t := fun t kt => by
    refine pre0 _ ?_
    show Steps p.tables e below (s₁.setTop (mkF m 0 #[rv ls, rv so, rv ed, iv (2 : Int32)] [])) _
    refine XS.iloadN X0.here hx rfl (hb hby d20_0) rfl ?_
    refine XS.aloadN X0.here hx rfl (hb hby d20_1) rfl rfl ?_
    exact kt
  obtain ⟨c2103, Ar2103, -, S2103, M2103, -, -⟩ := id Fi4
  have pre2105 : ∀ t, Steps p.tables e below (s₁.setTop (mkF m 14 #[rv ls, rv so, rv ed, iv (2 : Int32)] [(.ref so), (.int (2 : Int32)), (.ref ed)])) t → Steps p.tables e below (s₁.setTop (entryFrame m #[(.ref ls), (.ref so), (.ref ed), (.int (2 : Int32))] 4)) t := fun t kt => by
    refine pre2104 _ ?_
    show Steps p.tables e below (s₁.setTop (mkF m 2 #[rv ls, rv so, rv ed, iv (2 : Int32)] [(.ref ed), (.int (2 : Int32))])) _
    refine X0.arraylength hx (by rw [e0]; exact Ar2103.1) (State.isArrayOf_alike hZ.alike Ar2103.2.1) (g := (mkF m 2 #[rv ls, rv so, rv ed, iv (2 : Int32)] [(.ref ed), (.int (2 : Int32))])) rfl rfl (hb hby d20_2) _ ?_
    rw [len_of S2103 M2103]
    refine XS.icmpYes X0.here hx rfl (pc0 := 3) (pc' := 11) rfl (hb hby d20_3) rfl (XT.ii_ne_t (by decide)) (by decide) (by decide) ?_
    refine XS.aloadN X0.here hx rfl (hb hby d20_11) rfl rfl ?_
    refine XS.iloadN X0.here hx rfl (hb hby d20_12) rfl ?_
    refine XS.aloadN X0.here hx rfl (hb hby d20_13) rfl rfl ?_
    exact kt
  obtain ⟨c2106, Ar2106, q2106, S2106, M2106, H2106, G2106⟩ := id Fi4
  have i2106 : ¬ ((2 : Int32) < 0 ∨ c2106.slots.size ≤ ((2 : Int32)).toNatClampNeg) := inb_of S2106 ⟨by decide, by decide⟩
  obtain ⟨T2107, h2107, X2107, e2107, W2107, st2107⟩ := stR X0 hx hZ e0 Ar2106 (j := (2 : Int32)) i2106 rfl (Sto.ofV Ar2106 q2106 Fi5 (Ins.of_exa Fi6 (W 128 rfl))) (g := (mkF m 14 #[rv ls, rv so, rv ed, iv (2 : Int32)] [(.ref so), (.int (2 : Int32)), (.ref ed)])) rfl rfl (hb hby d20_14)
  have pre2108 : ∀ t, Steps p.tables e below (T2107.setTop (mkF m 15 #[rv ls, rv so, rv ed, iv (2 : Int32)] [])) t → Steps p.tables e below (s₁.setTop (entryFrame m #[(.ref ls), (.ref so), (.ref ed), (.int (2 : Int32))] 4)) t := fun t kt => pre2105 _ (st2107 _ kt)
  have N2107 := Fr.snoc X2107 N0 g_ed
  have O2107 := O0.wr W2107 g_ed
  have K2107 : Keep h0 h2107 [ls, ed] := K0.wr W2107 (Or.inl (List.mem_of_getElem? (i := 1) rfl))
  have F2109 := Fi0.wr W2107
  have F2110 := Fi1.other W2107 (Or.inl (fun q => q0 q.symm))
  have F2111 := Fi2.other W2107 (Or.inl (fun q => q0 q.symm))
  have F2112 := Fi3.wr W2107
  have F2113 := Fi6.wr W2107
  have F2114 := Fi7.other W2107 (Or.inl (fun q => q0 q.symm))
  have F2115 : Arv Z h2107 ed ked (.object "java/lang/Object") (10 : Int32) [v0, v1, (.ref so), .null, .null, .null, .null, .null, .null, .null] .null := Arv.set Ar2106 q2106 S2106 M2106 H2106 G2106 rfl W2107 2 rfl (Nat.le_of_ble_eq_true rfl)
  have pre2116 : ∀ t, Steps p.tables e below (T2107.setTop (mkF m 19 #[rv ls, rv so, rv ed, iv (2 : Int32)] [(.int (3 : Int32)), (.ref ls)])) t → Steps p.tables e below (s₁.setTop (entryFrame m #[(.ref ls), (.ref so), (.ref ed), (.int (2 : Int32))] 4)) t := fun t kt => by
    refine pre2108 _ ?_
    show Steps p.tables e below (T2107.setTop (mkF m 15 #[rv ls, rv so, rv ed, iv (2 : Int32)] [])) _
    refine XS.aloadN X2107.here hx rfl (hb hby d20_15) rfl rfl ?_
    refine XS.iloadN X2107.here hx rfl (hb hby d20_16) rfl ?_
    refine XS.iconst X2107.here hx rfl (hb hby d20_17) ?_
    refine XS.iadd X2107.here hx rfl (hb hby d20_18) rfl ?_
    show  Steps p.tables e below (T2107.setTop (mkF m 19 #[rv ls, rv so, rv ed, iv (2 : Int32)] [(.int ((2 : Int32) + (1 : Int32))), (.ref ls)])) _
    rw [(by decide : (((2 : Int32) + (1 : Int32)) : Int32) = (3 : Int32))]
    exact kt
  obtain ⟨T2117, h2117, X2117, e2117, W2117, st2117⟩ := putF X2107 hx hZ hown (host := "") (Or.inl (W 105 rfl)) Via.refl e2107 F2111 F2109 (Or.inl (W 106 rfl)) (W 57 rfl) (ty := .int) (by decide) rfl rfl (g := (mkF m 19 #[rv ls, rv so, rv ed, iv (2 : Int32)] [(.int (3 : Int32)), (.ref ls)])) rfl rfl (hb hby d20_19)
  have pre2118 : ∀ t, Steps p.tables e below (T2117.setTop (mkF m 22 #[rv ls, rv so, rv ed, iv (2 : Int32)] [])) t → Steps p.tables e below (s₁.setTop (entryFrame m #[(.ref ls), (.ref so), (.ref ed), (.int (2 : Int32))] 4)) t := fun t kt => pre2116 _ (st2117 _ kt)
  have N2117 := Fr.snoc X2117 N2107 g_ls
  have O2117 := O2107.wr W2117 g_ls
  have K2117 : Keep h0 h2117 [ls, ed] := K2107.wr W2117 (Or.inl (List.mem_of_getElem? (i := 0) rfl))
  have F2119 := F2109.wr W2117
  have F2120 := F2110.other W2117 (Or.inr (slot_ne (Or.inl (W 79 rfl)) (Or.inl (W 106 rfl)) (by decide) (t := (.array (.object "java/lang/Object"))) (t' := .int) (by decide) (by decide)))
  have F2121 := F2112.wr W2117
  have F2122 := F2113.wr W2117
  have F2123 := F2114.other W2117 (Or.inr (slot_ne (Or.inl (W 76 rfl)) (Or.inl (W 106 rfl)) (by decide) (t := .int) (t' := .int) (by decide) (by decide)))
  have F2124 := F2115.other W2117 q0
  have F2125 : Fld Z h2117 ls "java/util/ArrayList" "size" "I" (.int (3 : Int32)) := F2111.same W2117
  obtain ⟨fs, hr, hrun, hended, hW, hsame⟩ := X2117.leave (v := none) (fun _ => rfl)
  refine ⟨_, _, pre2118 _ (X2117.returnOut hx Bd.returns (hb hby d20_22) hr), hrun, hended, _, _, rfl, ?_, ⟨_, rfl⟩, hW, hsame.mono (by decide) (by decide)⟩
  show Q_add20_2 Z ls so ed v0 v1 ked mc h0 n0 _ T2117.heap _
  rw [e2117]
  exact ⟨rfl, N2117, K2117, O2117, F2119, F2120, F2121, F2123, F2124, F2125⟩
def Q_add19_2 (Z : State) (ls : Addr) (so : Addr) (mc : Int32) (ed : Addr) (v0 : Value) (v1 : Value) (ked : ClassId) (h0 : Heap) (n0 : Nat) (v : Option Value) (h : Heap) (L : List Loc) : Prop := v = some (.int (1 : Int32)) ∧ Fr n0 L ∧ Keep h0 h [ls, ed] ∧ Old Z n0 h ∧ Exa Z h ls "java/util/ArrayList" ∧ Fld Z h ls "java/util/ArrayList" "elementData" "[Ljava/lang/Object;" (.ref ed) ∧ Exa Z h ed "[Ljava/lang/Object;" ∧ Fld Z h ls "java/util/AbstractList" "modCount" "I" (.int (mc + (1 : Int32))) ∧ Arv Z h ed ked (.object "java/lang/Object") (10 : Int32) [v0, v1, (.ref so), .null, .null, .null, .null, .null, .null, .null] .null ∧ Fld Z h ls "java/util/ArrayList" "size" "I" (.int (3 : Int32))
set_option maxRecDepth 65536 in
set_option maxHeartbeats 40000000 in
theorem rm_add19_2 (l : Launch) (Z : State) (a0 : Array Value) (hw : ∀ d ∈ tables_1, d.before a0 Z = true) (ws : List Jvm.Cond) (ls : Addr) (so : Addr) (mc : Int32) (ed : Addr) (v0 : Value) (v1 : Value) (ked : ClassId) (h0 : Heap) (n0 : Nat) (O0 : Old Z n0 h0) (g_ls : n0 ≤ ls) (g_ed : n0 ≤ ed) (Fi0 : Exa Z h0 ls "java/util/ArrayList") (Fi1 : Fld Z h0 ls "java/util/AbstractList" "modCount" "I" (.int mc)) (Fi2 : Fld Z h0 ls "java/util/ArrayList" "elementData" "[Ljava/lang/Object;" (.ref ed)) (Fi3 : Fld Z h0 ls "java/util/ArrayList" "size" "I" (.int (2 : Int32))) (Fi4 : Exa Z h0 ed "[Ljava/lang/Object;") (Fi5 : Arv Z h0 ed ked (.object "java/lang/Object") (10 : Int32) [v0, v1, .null, .null, .null, .null, .null, .null, .null, .null] .null) (Fi6 : Ovr Z ked "java/lang/Object") (Fi7 : Exa Z h0 so "java/lang/String") (q0 : ¬ (ed = ls)) :
    MetFree l (⟨"java/util/ArrayList", "add", "(Ljava/lang/Object;)Z"⟩ : MethodName) (head1 (Jvm.Cond.code (⟨"java/util/ArrayList", "add", "(Ljava/lang/Object;)Z"⟩ : MethodName) jdk_38_method_25_code 2 (some .boolean) :: ws) ({ frames := 1, cells := 0, slots := 0, locals := 15 } : Room)) (fun a U => a = #[(.ref ls), (.ref so)] ∧ Z.Warmed39 U.vm ∧ U.heap = h0) (fun _ _ _ _ _ => True) (fun _ U o U' => ∃ v L, o = .returned v ∧ Q_add19_2 Z ls so mc ed v0 v1 ked h0 n0 v U'.heap L ∧ FrameEnd U o U' L ({ frames := 1, cells := 0, slots := 0, locals := 15 } : Room).cells ({ frames := 1, cells := 0, slots := 0, locals := 15 } : Room).slots) := by
  refine MetFree.of_bodySF (plainFor_of_name pn_30) hisR ?_
  intro p e s m args below meth c s₁ Bd hml0 hP hK
  have W := fun {d : Jvm.Cond} (i : Nat) (q : tables_1[i]? = some d) => hw d (List.mem_of_getElem? q)
  obtain ⟨rfl, hZ, hh⟩ := hP
  have hx := Bd.exec
  have hby := Bd.bytes
  have hml : c.maxLocals = 2 := hml0
  have hown : s.vm.findClass "java/util/ArrayList" = some m.cls := findClass_of_methodNamed Bd.named
  have hnm := (name_of_methodNamed Bd.named Bd.method).1
  have X0 : Stand p l e ({ frames := 1, cells := 0, slots := 0, locals := 15 } : Room) s m #[(.ref ls), (.ref so)] below meth c s₁ [] 0 0 := Stand.of_body Bd
  have e0 : s₁.heap = h0 := by rw [← hh, Bd.state]; rfl
  have N0 := Fr.nil n0
  have pre0 : ∀ t, Steps p.tables e below (s₁.setTop (mkF m 0 #[rv ls, rv so] [])) t → Steps p.tables e below (s₁.setTop (entryFrame m #[(.ref ls), (.ref so)] 2)) t := fun t k => castTop (ef_37 m ls so) k
  have K0 : Keep h0 h0 [ls, ed] := Keep.refl h0 [ls, ed]
  have pre2179 : ∀ t, Steps p.tables e below (s₁.setTop (mkF m 2 #[rv ls, rv so] [(.ref ls), (.ref ls)])) t → Steps p.tables e below (s₁.setTop (entryFrame m #[(.ref ls), (.ref so)] 2)) t := fun t kt => by
    refine pre0 _ ?_
    show Steps p.tables e below (s₁.setTop (mkF m 0 #[rv ls, rv so] [])) _
    refine XS.aloadN X0.here hx rfl (hb hby d19_0) rfl rfl ?_
    refine XS.dup X0.here hx rfl (hb hby d19_1) rfl rfl ?_
    exact kt
  obtain ⟨T2180, X2180, e2180, st2180⟩ := getF X0 hx hZ hown (host := "") (Or.inl (W 103 rfl)) (Via.of (W 104 rfl)) e0 Fi1 (g := (mkF m 2 #[rv ls, rv so] [(.ref ls), (.ref ls)])) rfl rfl (hb hby d19_2)
  have pre2181 : ∀ t, Steps p.tables e below (T2180.setTop (mkF m 5 #[rv ls, rv so] [(.int mc), (.ref ls)])) t → Steps p.tables e below (s₁.setTop (entryFrame m #[(.ref ls), (.ref so)] 2)) t := fun t kt => pre2179 _ (st2180 _ kt)
  have pre2182 : ∀ t, Steps p.tables e below (T2180.setTop (mkF m 7 #[rv ls, rv so] [(.int (mc + (1 : Int32))), (.ref ls)])) t → Steps p.tables e below (s₁.setTop (entryFrame m #[(.ref ls), (.ref so)] 2)) t := fun t kt => by
    refine pre2181 _ ?_
    show Steps p.tables e below (T2180.setTop (mkF m 5 #[rv ls, rv so] [(.int mc), (.ref ls)])) _
    refine XS.iconst X2180.here hx rfl (hb hby d19_5) ?_
    refine XS.iadd X2180.here hx rfl (hb hby d19_6) rfl ?_
    exact kt
  obtain ⟨T2183, h2183, X2183, e2183, W2183, st2183⟩ := putF X2180 hx hZ hown (host := "") (Or.inl (W 103 rfl)) (Via.of (W 104 rfl)) e2180 Fi1 Fi0 (Or.inl (W 76 rfl)) (W 57 rfl) (ty := .int) (by decide) rfl rfl (g := (mkF m 7 #[rv ls, rv so] [(.int (mc + (1 : Int32))), (.ref ls)])) rfl rfl (hb hby d19_7)
  have pre2184 : ∀ t, Steps p.tables e below (T2183.setTop (mkF m 10 #[rv ls, rv so] [])) t → Steps p.tables e below (s₁.setTop (entryFrame m #[(.ref ls), (.ref so)] 2)) t := fun t kt => pre2182 _ (st2183 _ kt)
  have N2183 := Fr.snoc X2183 N0 g_ls
  have O2183 := O0.wr W2183 g_ls
  have K2183 : Keep h0 h2183 [ls, ed] := K0.wr W2183 (Or.inl (List.mem_of_getElem? (i := 0) rfl))
  have F2185 := Fi0.wr W2183
  have F2186 := Fi2.other W2183 (Or.inr (slot_ne (Or.inl (W 79 rfl)) (Or.inl (W 76 rfl)) (by decide) (t := (.array (.object "java/lang/Object"))) (t' := .int) (by decide) (by decide)))
  have F2187 := Fi3.other W2183 (Or.inr (slot_ne (Or.inl (W 106 rfl)) (Or.inl (W 76 rfl)) (by decide) (t := .int) (t' := .int) (by decide) (by decide)))
  have F2188 := Fi4.wr W2183
  have F2189 := Fi5.other W2183 q0
  have F2190 := Fi7.wr W2183
  have F2191 : Fld Z h2183 ls "java/util/AbstractList" "modCount" "I" (.int (mc + (1 : Int32))) := Fi1.same W2183
  have pre2192 : ∀ t, Steps p.tables e below (T2183.setTop (mkF m 13 #[rv ls, rv so] [(.ref ls), (.ref so), (.ref ls)])) t → Steps p.tables e below (s₁.setTop (entryFrame m #[(.ref ls), (.ref so)] 2)) t := fun t kt => by
    refine pre2184 _ ?_
    show Steps p.tables e below (T2183.setTop (mkF m 10 #[rv ls, rv so] [])) _
    refine XS.aloadN X2183.here hx rfl (hb hby d19_10) rfl rfl ?_
    refine XS.aloadN X2183.here hx rfl (hb hby d19_11) rfl rfl ?_
    refine XS.aloadN X2183.here hx rfl (hb hby d19_12) rfl rfl ?_
    exact kt
  obtain ⟨T2193, X2193, e2193, st2193⟩ := getF X2183 hx hZ hown (host := "") (Or.inl (W 78 rfl)) Via.refl e2183 F2186 (g := (mkF m 13 #[rv ls, rv so] [(.ref ls), (.ref so), (.ref ls)])) rfl rfl (hb hby d19_13)
  have pre2194 : ∀ t, Steps p.tables e below (T2193.setTop (mkF m 16 #[rv ls, rv so] [(.ref ed), (.ref so), (.ref ls)])) t → Steps p.tables e below (s₁.setTop (entryFrame m #[(.ref ls), (.ref so)] 2)) t := fun t kt => pre2192 _ (st2193 _ kt)
  have pre2195 : ∀ t, Steps p.tables e below (T2193.setTop (mkF m 17 #[rv ls, rv so] [(.ref ls), (.ref ed), (.ref so), (.ref ls)])) t → Steps p.tables e below (s₁.setTop (entryFrame m #[(.ref ls), (.ref so)] 2)) t := fun t kt => by
    refine pre2194 _ ?_
    show Steps p.tables e below (T2193.setTop (mkF m 16 #[rv ls, rv so] [(.ref ed), (.ref so), (.ref ls)])) _
    refine XS.aloadN X2193.here hx rfl (hb hby d19_16) rfl rfl ?_
    exact kt
  obtain ⟨T2196, X2196, e2196, st2196⟩ := getF X2193 hx hZ hown (host := "") (Or.inl (W 105 rfl)) Via.refl e2193 F2187 (g := (mkF m 17 #[rv ls, rv so] [(.ref ls), (.ref ed), (.ref so), (.ref ls)])) rfl rfl (hb hby d19_17)
  have pre2197 : ∀ t, Steps p.tables e below (T2196.setTop (mkF m 20 #[rv ls, rv so] [(.int (2 : Int32)), (.ref ed), (.ref so), (.ref ls)])) t → Steps p.tables e below (s₁.setTop (entryFrame m #[(.ref ls), (.ref so)] 2)) t := fun t kt => pre2195 _ (st2196 _ kt)
  obtain ⟨cq2198, q2198, q2198'⟩ := (F2185).cell
  obtain ⟨_, _, ⟨T2198, L2198, k2198, n2198⟩, -, X2198, ⟨Lc2198, hQ2198, l2198, y2198, z2198⟩, st2198⟩ := X2196.privateBack hx (y := (⟨"java/util/ArrayList", "add", "(Ljava/lang/Object;[Ljava/lang/Object;I)V"⟩ : MethodName)) hown (mvT hZ (W 107 rfl)) (mvT hZ (W 108 rfl)) (mvT hZ (W 110 rfl)) (Cond.privateMethod_at (mvP hZ (W 109 rfl) (args := #[]))) (mvT hZ (W 111 rfl)) (by decide) (backOf (W := 0) (rm_add20_2 l Z a0 hw [] ls so ed v0 v1 ked mc h2183 n0 O2183 g_ls g_ed F2185 F2186 F2187 F2188 F2189 Fi6 F2190 F2191 q0) hZ (W 111 rfl) (W 58 rfl) (by decide) (by decide)) (g := (mkF m 20 #[rv ls, rv so] [(.int (2 : Int32)), (.ref ed), (.ref so), (.ref ls)])) rfl (by rw [hml]; rfl) (Steps.refl _) (a := ls) (by rw [e2196]; exact q2198) q2198' (argsL := [(.ref so), (.ref ed), (.int (2 : Int32))]) (rest := []) (lenOf pd_36 rfl) rfl (by show 2 * 0 + _ ≤ _; exact Nat.le_of_eq rfl) (hb hby d19_20) (fun _ _ => ⟨rfl, e2196, (by decide : 0 + 0 ≤ _), (by decide : 0 + 0 ≤ _)⟩)
  dsimp only [Pt.U, Pt.locs, Pt.cells, Pt.slots] at X2198 l2198 y2198 z2198 st2198 hQ2198
  subst l2198 y2198 z2198
  obtain ⟨rfl, M2198, Kc2198, O2198, J2198_0, J2198_1, J2198_2, J2198_3, J2198_4, J2198_5⟩ := hQ2198
  obtain ⟨h2198, e2198⟩ : ∃ z, T2198.heap = z := ⟨_, rfl⟩
  rw [e2198] at Kc2198 O2198 J2198_0 J2198_1 J2198_2 J2198_3 J2198_4 J2198_5
  have N2198 := Fr.app N2183 M2198
  have K2198 : Keep h0 h2198 [ls, ed] := K2183.trans Kc2198 (own_all2 (Or.inl (List.mem_of_getElem? (i := 0) rfl)) (Or.inl (List.mem_of_getElem? (i := 1) rfl)))
  have pre2199 : ∀ t, Steps p.tables e below (T2198.setTop (mkF m 23 #[rv ls, rv so] [])) t → Steps p.tables e below (s₁.setTop (entryFrame m #[(.ref ls), (.ref so)] 2)) t := fun t kt => pre2197 _ (st2198.trans kt)
  have F2200 := F2190.keep Kc2198
  have pre2201 : ∀ t, Steps p.tables e below (T2198.setTop (mkF m 24 #[rv ls, rv so] [(.int (1 : Int32))])) t → Steps p.tables e below (s₁.setTop (entryFrame m #[(.ref ls), (.ref so)] 2)) t := fun t kt => by
    refine pre2199 _ ?_
    show Steps p.tables e below (T2198.setTop (mkF m 23 #[rv ls, rv so] [])) _
    refine XS.iconst X2198.here hx rfl (hb hby d19_23) ?_
    exact kt
  obtain ⟨fs, hr, hrun, hended, hW, hsame⟩ := X2198.leave (v := some (.int (1 : Int32))) (fun h => by rw [Bd.returns] at h; cases h)
  refine ⟨_, _, pre2201 _ (retN X2198 hx (t := .boolean) Bd.returns (by simp) (hb hby d19_24) hr), hrun, hended, _, _, rfl, ?_, ⟨_, rfl⟩, hW, hsame.mono (by decide) (by decide)⟩
  show Q_add19_2 Z ls so mc ed v0 v1 ked h0 n0 _ T2198.heap _
  rw [e2198]
  exact ⟨rfl, N2198, K2198, O2198, J2198_0, J2198_1, J2198_2, J2198_3, J2198_4, J2198_5⟩
def Q_line2 (Z : State) (rp : Addr) (se : Addr) (so : Addr) (cz : Int32) (ad : Addr) (kd : ClassId) (ls : Addr) (mc : Int32) (df : Int32) (b1 : Int32) (c0 : Int32) (c1 : Int32) (b2 : Int32) (d0 : Int32) (d1 : Int32) (ed : Addr) (ked : ClassId) (v0 : Value) (v1 : Value) (h0 : Heap) (n0 : Nat) (v : Option Value) (h : Heap) (L : List Loc) : Prop := v = none ∧ Fr n0 L ∧ Keep h0 h [rp, ls, ed] ∧ Old Z n0 h ∧ Exa Z h rp "com/example/homethread/homethread/cli/ScenarioReport" ∧ Fld Z h rp "com/example/homethread/homethread/cli/ScenarioReport" "lines" "Ljava/util/List;" (.ref ls) ∧ Fld Z h rp "com/example/homethread/homethread/cli/ScenarioReport" "differs" "Z" (.int (own_dif df (own_eqv (own_cs b1 c0 c1) (own_cs b2 d0 d1)))) ∧ Exa Z h ls "java/util/ArrayList" ∧ Fld Z h ls "java/util/AbstractList" "modCount" "I" (.int (mc + (1 : Int32))) ∧ Fld Z h ls "java/util/ArrayList" "elementData" "[Ljava/lang/Object;" (.ref ed) ∧ Fld Z h ls "java/util/ArrayList" "size" "I" (.int (3 : Int32)) ∧ Exa Z h ed "[Ljava/lang/Object;" ∧ Arv Z h ed ked (.object "java/lang/Object") (10 : Int32) [v0, v1, (.ref so), .null, .null, .null, .null, .null, .null, .null] .null ∧ Ovr Z ked "java/lang/Object"
set_option maxRecDepth 65536 in
set_option maxHeartbeats 40000000 in
theorem rm_line2 (l : Launch) (Z : State) (a0 : Array Value) (hw : ∀ d ∈ tables_1, d.before a0 Z = true) (ws : List Jvm.Cond) (rp : Addr) (se : Addr) (so : Addr) (cz : Int32) (ad : Addr) (kd : ClassId) (ls : Addr) (mc : Int32) (df : Int32) (b1 : Int32) (c0 : Int32) (c1 : Int32) (b2 : Int32) (d0 : Int32) (d1 : Int32) (ed : Addr) (ked : ClassId) (v0 : Value) (v1 : Value) (h0 : Heap) (n0 : Nat) (O0 : Old Z n0 h0) (G0 : Sta Z Z.heap "java/lang/String" "COMPACT_STRINGS" "Z" (.int cz)) (G1 : Sta Z Z.heap "java/util/ArrayList" "DEFAULTCAPACITY_EMPTY_ELEMENTDATA" "[Ljava/lang/Object;" (.ref ad)) (G2 : Arv Z Z.heap ad kd (.object "java/lang/Object") (0 : Int32) [] .null) (G3 : Exa Z Z.heap ad "[Ljava/lang/Object;") (g_rp : n0 ≤ rp) (g_ls : n0 ≤ ls) (g_ed : n0 ≤ ed) (Fi0 : Exa Z h0 rp "com/example/homethread/homethread/cli/ScenarioReport") (Fi1 : Fld Z h0 rp "com/example/homethread/homethread/cli/ScenarioReport" "lines" "Ljava/util/List;" (.ref ls)) (Fi2 : Fld Z h0 rp "com/example/homethread/homethread/cli/ScenarioReport" "differs" "Z" (.int df)) (Fi3 : Exa Z h0 ls "java/util/ArrayList") (Fi4 : Fld Z h0 ls "java/util/AbstractList" "modCount" "I" (.int mc)) (Fi5 : Fld Z h0 ls "java/util/ArrayList" "elementData" "[Ljava/lang/Object;" (.ref ed)) (Fi6 : Fld Z h0 ls "java/util/ArrayList" "size" "I" (.int (2 : Int32))) (Fi7 : Exa Z h0 ed "[Ljava/lang/Object;") (Fi8 : Arv Z h0 ed ked (.object "java/lang/Object") (10 : Int32) [v0, v1, .null, .null, .null, .null, .null, .null, .null, .null] .null) (Fi9 : Ovr Z ked "java/lang/Object") (qz : ¬ (cz = (0 : Int32))) (qn : ¬ (so = se)) (qd : own_bit df) (qm0 : ¬ (rp = ls)) (qm1 : ¬ (rp = ed)) (qm2 : ¬ (ls = ed)) (hF : Heap) (XF0 : Ext hF h0) (Fb0 : own_str Z hF so b1 c0 c1) (Fb1 : own_str Z hF se b2 d0 d1) (zF_rp : hF.size ≤ rp) (zF_ls : hF.size ≤ ls) (zF_ed : hF.size ≤ ed) :
    MetFree l (⟨"com/example/homethread/homethread/cli/ScenarioReport", "expectLine", "(Ljava/lang/String;Ljava/lang/String;)V"⟩ : MethodName) (head1 (Jvm.Cond.code (⟨"com/example/homethread/homethread/cli/ScenarioReport", "expectLine", "(Ljava/lang/String;Ljava/lang/String;)V"⟩ : MethodName) prog_42_method_3_code 3 none :: ws) ({ frames := 2, cells := 0, slots := 0, locals := 28 } : Room)) (fun a U => a = #[(.ref rp), (.ref se), (.ref so)] ∧ Z.Warmed39 U.vm ∧ U.heap = h0) (fun _ _ _ _ _ => True) (fun _ U o U' => ∃ v L, o = .returned v ∧ Q_line2 Z rp se so cz ad kd ls mc df b1 c0 c1 b2 d0 d1 ed ked v0 v1 h0 n0 v U'.heap L ∧ FrameEnd U o U' L ({ frames := 2, cells := 0, slots := 0, locals := 28 } : Room).cells ({ frames := 2, cells := 0, slots := 0, locals := 28 } : Room).slots) := by
  refine MetFree.of_bodySF (plainFor_of_name pn_25) hisR ?_
  intro p e s m args below meth c s₁ Bd hml0 hP hK
  have W := fun {d : Jvm.Cond} (i : Nat) (q : tables_1[i]? = some d) => hw d (List.mem_of_getElem? q)
  obtain ⟨rfl, hZ, hh⟩ := hP
  have hx := Bd.exec
  have hby := Bd.bytes
  have hml : c.maxLocals = 3 := hml0
  have hown : s.vm.findClass "com/example/homethread/homethread/cli/ScenarioReport" = some m.cls := findClass_of_methodNamed Bd.named
  have hnm := (name_of_methodNamed Bd.named Bd.method).1
  have X0 : Stand p l e ({ frames := 2, cells := 0, slots := 0, locals := 28 } : Room) s m #[(.ref rp), (.ref se), (.ref so)] below meth c s₁ [] 0 0 := Stand.of_body Bd
  have e0 : s₁.heap = h0 := by rw [← hh, Bd.state]; rfl
  have N0 := Fr.nil n0
  have pre0 : ∀ t, Steps p.tables e below (s₁.setTop (mkF m 0 #[rv rp, rv se, rv so] [])) t → Steps p.tables e below (s₁.setTop (entryFrame m #[(.ref rp), (.ref se), (.ref so)] 3)) t := fun t k => castTop (ef_26 m rp se so) k
  have K0 : Keep h0 h0 [rp, ls, ed] := Keep.refl h0 [rp, ls, ed]
  have E1995 := own_str_exa Fb0
  have E1996 := own_str_exa Fb1
  have ne_so_rp : so ≠ rp := Nat.ne_of_lt (Nat.lt_of_lt_of_le (own_str_lt Fb0) zF_rp)
  have ne_so_ls : so ≠ ls := Nat.ne_of_lt (Nat.lt_of_lt_of_le (own_str_lt Fb0) zF_ls)
  have ne_so_ed : so ≠ ed := Nat.ne_of_lt (Nat.lt_of_lt_of_le (own_str_lt Fb0) zF_ed)
  have ne_se_rp : se ≠ rp := Nat.ne_of_lt (Nat.lt_of_lt_of_le (own_str_lt Fb1) zF_rp)
  have ne_se_ls : se ≠ ls := Nat.ne_of_lt (Nat.lt_of_lt_of_le (own_str_lt Fb1) zF_ls)
  have ne_se_ed : se ≠ ed := Nat.ne_of_lt (Nat.lt_of_lt_of_le (own_str_lt Fb1) zF_ed)
  have pre1997 : ∀ t, Steps p.tables e below (s₁.setTop (mkF m 1 #[rv rp, rv se, rv so] [(.ref rp)])) t → Steps p.tables e below (s₁.setTop (entryFrame m #[(.ref rp), (.ref se), (.ref so)] 3)) t := fun t kt => by
    refine pre0 _ ?_
    show Steps p.tables e below (s₁.setTop (mkF m 0 #[rv rp, rv se, rv so] [])) _
    refine XS.aloadN X0.here hx rfl (hb hby d18_0) rfl rfl ?_
    exact kt
  obtain ⟨T1998, X1998, e1998, st1998⟩ := getF X0 hx hZ hown (host := "") (Or.inl (W 80 rfl)) Via.refl e0 Fi1 (g := (mkF m 1 #[rv rp, rv se, rv so] [(.ref rp)])) rfl rfl (hb hby d18_1)
  have pre1999 : ∀ t, Steps p.tables e below (T1998.setTop (mkF m 4 #[rv rp, rv se, rv so] [(.ref ls)])) t → Steps p.tables e below (s₁.setTop (entryFrame m #[(.ref rp), (.ref se), (.ref so)] 3)) t := fun t kt => pre1997 _ (st1998 _ kt)
  have pre2000 : ∀ t, Steps p.tables e below (T1998.setTop (mkF m 5 #[rv rp, rv se, rv so] [(.ref so), (.ref ls)])) t → Steps p.tables e below (s₁.setTop (entryFrame m #[(.ref rp), (.ref se), (.ref so)] 3)) t := fun t kt => by
    refine pre1999 _ ?_
    show Steps p.tables e below (T1998.setTop (mkF m 4 #[rv rp, rv se, rv so] [(.ref ls)])) _
    refine XS.aloadN X1998.here hx rfl (hb hby d18_4) rfl rfl ?_
    exact kt
  obtain ⟨cq2001, kq2001, q2001a, q2001b, q2001c⟩ := isOf hZ e1998 Fi3
  obtain ⟨_, _, ⟨T2001, L2001, k2001, n2001⟩, -, X2001, ⟨Lc2001, hQ2001, l2001, y2001, z2001⟩, st2001⟩ := X1998.interfaceBack hx (xi := (⟨"java/util/List", "add", "(Ljava/lang/Object;)Z"⟩ : MethodName)) (y := (⟨"java/util/ArrayList", "add", "(Ljava/lang/Object;)Z"⟩ : MethodName)) hown (mvT hZ (W 94 rfl)) (mvT hZ (W 95 rfl)) (mvT hZ (W 96 rfl)) (mvT hZ (W 97 rfl)) (mvT hZ (W 98 rfl)) (mvT hZ (W 99 rfl)) (mvT hZ (W 100 rfl)) (mvT hZ (W 101 rfl)) (by decide) (backOf (W := 0) (rm_add19_2 l Z a0 hw [] ls so mc ed v0 v1 ked h0 n0 O0 g_ls g_ed Fi3 Fi4 Fi5 Fi6 Fi7 Fi8 Fi9 (E1995.ext XF0) (fun q => qm2 q.symm)) hZ (W 102 rfl) (W 58 rfl) (by decide) (by decide)) q2001a q2001b q2001c (g := (mkF m 5 #[rv rp, rv se, rv so] [(.ref so), (.ref ls)])) rfl (by rw [hml]; rfl) (Steps.refl _) (argsL := [(.ref so)]) (rest := []) (lenOf pd_38 rfl) rfl (by show 2 * 0 + _ ≤ _; exact Nat.le_of_eq rfl) (hb hby d18_5) (fun _ _ => ⟨rfl, e1998, (by decide : 0 + 0 ≤ _), (by decide : 0 + 0 ≤ _)⟩)
  dsimp only [Pt.U, Pt.locs, Pt.cells, Pt.slots] at X2001 l2001 y2001 z2001 st2001 hQ2001
  subst l2001 y2001 z2001
  obtain ⟨rfl, M2001, Kc2001, O2001, J2001_0, J2001_1, J2001_2, J2001_3, J2001_4, J2001_5⟩ := hQ2001
  obtain ⟨h2001, e2001⟩ : ∃ z, T2001.heap = z := ⟨_, rfl⟩
  rw [e2001] at Kc2001 O2001 J2001_0 J2001_1 J2001_2 J2001_3 J2001_4 J2001_5
  have N2001 := Fr.app N0 M2001
  have K2001 : Keep h0 h2001 [rp, ls, ed] := K0.trans Kc2001 (own_all2 (Or.inl (List.mem_of_getElem? (i := 1) rfl)) (Or.inl (List.mem_of_getElem? (i := 2) rfl)))
  have pre2202 : ∀ t, Steps p.tables e below (T2001.setTop (mkF m 10 #[rv rp, rv se, rv so] [(.int (1 : Int32))])) t → Steps p.tables e below (s₁.setTop (entryFrame m #[(.ref rp), (.ref se), (.ref so)] 3)) t := fun t kt => pre2000 _ (st2001.trans kt)
  have XF2203 : Ext hF h2001 := own_ext_keep XF0 Kc2001 (own_all2 zF_ls zF_ed)
  have F2204 := Fi0.keep Kc2001
  have F2205 := Fi1.keep Kc2001 (own_nm2 qm0 qm1)
  have F2206 := Fi2.keep Kc2001 (own_nm2 qm0 qm1)
  have pre2207 : ∀ t, Steps p.tables e below (T2001.setTop (mkF m 13 #[rv rp, rv se, rv so] [(.ref se), (.ref so)])) t → Steps p.tables e below (s₁.setTop (entryFrame m #[(.ref rp), (.ref se), (.ref so)] 3)) t := fun t kt => by
    refine pre2202 _ ?_
    show Steps p.tables e below (T2001.setTop (mkF m 10 #[rv rp, rv se, rv so] [(.int (1 : Int32))])) _
    refine XS.pop X2001.here hx rfl (hb hby d18_10) rfl rfl ?_
    refine XS.aloadN X2001.here hx rfl (hb hby d18_11) rfl rfl ?_
    refine XS.aloadN X2001.here hx rfl (hb hby d18_12) rfl rfl ?_
    exact kt
  obtain ⟨cq2208, kq2208, q2208a, q2208b, q2208c⟩ := isOf hZ e2001 (E1995.ext XF2203)
  obtain ⟨_, _, ⟨T2208, L2208, k2208, n2208⟩, -, X2208, ⟨Lc2208, hQ2208, l2208, y2208, z2208⟩, st2208⟩ := X2001.virtualBack hx (y := (⟨"java/lang/String", "equals", "(Ljava/lang/Object;)Z"⟩ : MethodName)) (z := (⟨"java/lang/String", "equals", "(Ljava/lang/Object;)Z"⟩ : MethodName)) hown (mvT hZ (W 129 rfl)) (mvT hZ (W 130 rfl)) (notFace_of_selects (args := #[]) (mvT hZ (W 132 rfl))) (mvT hZ (W 132 rfl)) (mvT hZ (W 131 rfl)) (by decide) (backOf (W := 0) (rm_equals l Z a0 hw [] so se cz b1 c0 c1 b2 d0 d1 h2001 n0 O2001 G0 (own_str_ext Fb0 XF2203) (own_str_ext Fb1 XF2203) qz qn) hZ (W 133 rfl) (W 9 rfl) (by decide) (by decide)) q2208a q2208c (g := (mkF m 13 #[rv rp, rv se, rv so] [(.ref se), (.ref so)])) rfl (by rw [hml]; rfl) (Steps.refl _) (argsL := [(.ref se)]) (rest := []) (lenOf pd_38 rfl) rfl (by show 2 * 0 + _ ≤ _; exact Nat.le_of_eq rfl) (hb hby d18_13) (fun _ _ => ⟨rfl, e2001, (by decide : 0 + 0 ≤ _), (by decide : 0 + 0 ≤ _)⟩)
  dsimp only [Pt.U, Pt.locs, Pt.cells, Pt.slots] at X2208 l2208 y2208 z2208 st2208 hQ2208
  subst l2208 y2208 z2208
  obtain ⟨rfl, M2208, e2208⟩ := hQ2208
  have N2208 := Fr.app N2001 M2208
  have pre2209 : ∀ t, Steps p.tables e below (T2208.setTop (mkF m 16 #[rv rp, rv se, rv so] [(.int (own_eqv (own_cs b1 c0 c1) (own_cs b2 d0 d1)))])) t → Steps p.tables e below (s₁.setTop (entryFrame m #[(.ref rp), (.ref se), (.ref so)] 3)) t := fun t kt => pre2207 _ (st2208.trans kt)
  by_cases hc2210 : (own_eqv (own_cs b1 c0 c1) (own_cs b2 d0 d1)) = (0 : Int32)
  · have pre2211 : ∀ t, Steps p.tables e below (T2208.setTop (mkF m 21 #[rv rp, rv se, rv so] [(.int (1 : Int32)), (.ref rp)])) t → Steps p.tables e below (s₁.setTop (entryFrame m #[(.ref rp), (.ref se), (.ref so)] 3)) t := fun t kt => by
      refine pre2209 _ ?_
      show Steps p.tables e below (T2208.setTop (mkF m 16 #[rv rp, rv se, rv so] [(.int (own_eqv (own_cs b1 c0 c1) (own_cs b2 d0 d1)))])) _
      refine XS.ifNo X2208.here hx rfl (hb hby d18_16) rfl (XT.i0_ne_f hc2210) ?_
      refine XS.aloadN X2208.here hx rfl (hb hby d18_19) rfl rfl ?_
      refine XS.iconst X2208.here hx rfl (hb hby d18_20) ?_
      exact kt
    obtain ⟨T2212, h2212, X2212, e2212, W2212, st2212⟩ := putFN X2208 hx hZ hown (W 87 rfl) Via.refl e2208 F2206 F2204 (Or.inl (W 88 rfl)) (W 50 rfl) (ty := .boolean) (v' := (.int (1 : Int32))) (by decide) rfl rfl (g := (mkF m 21 #[rv rp, rv se, rv so] [(.int (1 : Int32)), (.ref rp)])) rfl rfl (hb hby d18_21)
    have pre2213 : ∀ t, Steps p.tables e below (T2212.setTop (mkF m 24 #[rv rp, rv se, rv so] [])) t → Steps p.tables e below (s₁.setTop (entryFrame m #[(.ref rp), (.ref se), (.ref so)] 3)) t := fun t kt => pre2211 _ (st2212 _ kt)
    have N2212 := Fr.snoc X2212 N2208 g_rp
    have O2212 := O2001.wr W2212 g_rp
    have K2212 : Keep h0 h2212 [rp, ls, ed] := K2001.wr W2212 (Or.inl (List.mem_of_getElem? (i := 0) rfl))
    have XF2214 : Ext hF h2212 := own_ext_wr XF2203 W2212 zF_rp
    have F2215 := F2204.wr W2212
    have F2216 := F2205.other W2212 (Or.inr (slot_ne (Or.inr (W 81 rfl)) (Or.inl (W 88 rfl)) (by decide) (t := (.object "java/util/List")) (t' := .boolean) (by decide) (by decide)))
    have F2217 := J2001_0.wr W2212
    have F2218 := J2001_1.other W2212 (Or.inl (fun q => qm0 q.symm))
    have F2219 := J2001_2.wr W2212
    have F2220 := J2001_3.other W2212 (Or.inl (fun q => qm0 q.symm))
    have F2221 := J2001_4.other W2212 (fun q => qm1 q.symm)
    have F2222 := J2001_5.other W2212 (Or.inl (fun q => qm0 q.symm))
    have F2223 : Fld Z h2212 rp "com/example/homethread/homethread/cli/ScenarioReport" "differs" "Z" (.int (1 : Int32)) := F2206.same W2212
    have F2224 : Fld Z h2212 rp "com/example/homethread/homethread/cli/ScenarioReport" "differs" "Z" (.int (own_dif df (own_eqv (own_cs b1 c0 c1) (own_cs b2 d0 d1)))) := (by rw [show (own_dif df (own_eqv (own_cs b1 c0 c1) (own_cs b2 d0 d1))) = (1 : Int32) from own_dif0 hc2210]; exact F2223)
    obtain ⟨fs, hr, hrun, hended, hW, hsame⟩ := X2212.leave (v := none) (fun _ => rfl)
    refine ⟨_, _, pre2213 _ (X2212.returnOut hx Bd.returns (hb hby d18_24) hr), hrun, hended, _, _, rfl, ?_, ⟨_, rfl⟩, hW, hsame.mono (by decide) (by decide)⟩
    show Q_line2 Z rp se so cz ad kd ls mc df b1 c0 c1 b2 d0 d1 ed ked v0 v1 h0 n0 _ T2212.heap _
    rw [e2212]
    exact ⟨rfl, N2212, K2212, O2212, F2215, F2216, F2224, F2217, F2220, F2218, F2222, F2219, F2221, Fi9⟩
  · have pre2225 : ∀ t, Steps p.tables e below (T2208.setTop (mkF m 24 #[rv rp, rv se, rv so] [])) t → Steps p.tables e below (s₁.setTop (entryFrame m #[(.ref rp), (.ref se), (.ref so)] 3)) t := fun t kt => by
      refine pre2209 _ ?_
      show Steps p.tables e below (T2208.setTop (mkF m 16 #[rv rp, rv se, rv so] [(.int (own_eqv (own_cs b1 c0 c1) (own_cs b2 d0 d1)))])) _
      refine XS.ifYes X2208.here hx rfl (pc0 := 16) (pc' := 24) rfl (hb hby d18_16) rfl (XT.i0_ne_t hc2210) (by decide) (by decide) ?_
      exact kt
    have F2226 : Fld Z h2001 rp "com/example/homethread/homethread/cli/ScenarioReport" "differs" "Z" (.int (own_dif df (own_eqv (own_cs b1 c0 c1) (own_cs b2 d0 d1)))) := (by rw [show (own_dif df (own_eqv (own_cs b1 c0 c1) (own_cs b2 d0 d1))) = df from own_dif1 hc2210]; exact F2206)
    obtain ⟨fs, hr, hrun, hended, hW, hsame⟩ := X2208.leave (v := none) (fun _ => rfl)
    refine ⟨_, _, pre2225 _ (X2208.returnOut hx Bd.returns (hb hby d18_24) hr), hrun, hended, _, _, rfl, ?_, ⟨_, rfl⟩, hW, hsame.mono (by decide) (by decide)⟩
    show Q_line2 Z rp se so cz ad kd ls mc df b1 c0 c1 b2 d0 d1 ed ked v0 v1 h0 n0 _ T2208.heap _
    rw [e2208]
    exact ⟨rfl, N2208, K2001, O2001, F2204, F2205, F2226, J2001_0, J2001_3, J2001_1, J2001_5, J2001_2, J2001_4, Fi9⟩
theorem ef_39 (m : MethodId) (x0 : Int32) (x1 : Int32) (x2 : Int32) (x3 : Int32) : entryFrame m #[(.int x0), (.int x1), (.int x2), (.int x3)] maxLocals = mkF m 0 #[.val (.int x0), .val (.int x1), .val (.int x2), .val (.int x3), .unset, .unset, .unset, .unset, .unset, .unset, .unset, .unset, .unset, .unset, .unset, .unset, .unset, .unset] [] := by first | (simp [entryFrame, mkF, argsToLocals, Value.category, maxLocals]; done) | rfl
theorem pd_40 : parseMethodDescriptor "(II)Ljava/lang/String;" = some ⟨[.int, .int], some (.object "java/lang/String")⟩ := by decide +kernel
theorem pd_41 : parseMethodDescriptor "(II)Z" = some ⟨[.int, .int], some .boolean⟩ := by decide +kernel
theorem d13_0 : decode prog_42_method_1_code 0 = .ok (.aload_n 0, 1) := by decide +kernel
theorem d13_1 : decode prog_42_method_1_code 1 = .ok (.invokespecial 1, 3) := by decide +kernel
theorem d13_4 : decode prog_42_method_1_code 4 = .ok (.aload_n 0, 1) := by decide +kernel
theorem d13_5 : decode prog_42_method_1_code 5 = .ok (.new 7, 3) := by decide +kernel
theorem d13_8 : decode prog_42_method_1_code 8 = .ok (.dup, 1) := by decide +kernel
theorem d13_9 : decode prog_42_method_1_code 9 = .ok (.invokespecial 9, 3) := by decide +kernel
theorem d14_0 : decode jdk_38_method_2_code 0 = .ok (.aload_n 0, 1) := by decide +kernel
theorem d14_1 : decode jdk_38_method_2_code 1 = .ok (.invokespecial 1, 3) := by decide +kernel
theorem d15_0 : decode jdk_39_method_1_code 0 = .ok (.aload_n 0, 1) := by decide +kernel
theorem d15_1 : decode jdk_39_method_1_code 1 = .ok (.invokespecial 1, 3) := by decide +kernel
theorem d16_0 : decode jdk_22_method_1_code 0 = .ok (.aload_n 0, 1) := by decide +kernel
theorem d16_1 : decode jdk_22_method_1_code 1 = .ok (.invokespecial 1, 3) := by decide +kernel
theorem d16_4 : decode jdk_22_method_1_code 4 = .ok (.return_, 1) := by decide +kernel
theorem pn_42 : plainName "java/util/AbstractCollection" = true := by first | (simp [plainName, overriddenIn]; done) | decide +kernel
theorem ef_43 (m : MethodId) (x0 : Addr) : entryFrame m #[(.ref x0)] 1 = mkF m 0 #[.val (.ref x0)] [] := by first | (simp [entryFrame, mkF, argsToLocals, Value.category]; done) | rfl
def Q_init16_0 (Z : State) (b2284 : Addr) (h0 : Heap) (n0 : Nat) (v : Option Value) (h : Heap) (L : List Loc) : Prop := v = none ∧ Fr n0 L ∧ h = h0
set_option maxRecDepth 65536 in
set_option maxHeartbeats 40000000 in
theorem rm_init16_0 (l : Launch) (Z : State) (a0 : Array Value) (hw : ∀ d ∈ tables_1, d.before a0 Z = true) (ws : List Jvm.Cond) (b2284 : Addr) (h0 : Heap) (n0 : Nat) (O0 : Old Z n0 h0) :
    MetFree l (⟨"java/util/AbstractCollection", "<init>", "()V"⟩ : MethodName) (head1 (Jvm.Cond.code (⟨"java/util/AbstractCollection", "<init>", "()V"⟩ : MethodName) jdk_22_method_1_code 1 none :: ws) ({ frames := 1, cells := 0, slots := 0, locals := 12 } : Room)) (fun a U => a = #[(.ref b2284)] ∧ Z.Warmed39 U.vm ∧ U.heap = h0) (fun _ _ _ _ _ => True) (fun _ U o U' => ∃ v L, o = .returned v ∧ Q_init16_0 Z b2284 h0 n0 v U'.heap L ∧ FrameEnd U o U' L ({ frames := 1, cells := 0, slots := 0, locals := 12 } : Room).cells ({ frames := 1, cells := 0, slots := 0, locals := 12 } : Room).slots) := by
  refine MetFree.of_bodySF (plainFor_of_name pn_42) hisR ?_
  intro p e s m args below meth c s₁ Bd hml0 hP hK
  have W := fun {d : Jvm.Cond} (i : Nat) (q : tables_1[i]? = some d) => hw d (List.mem_of_getElem? q)
  obtain ⟨rfl, hZ, hh⟩ := hP
  have hx := Bd.exec
  have hby := Bd.bytes
  have hml : c.maxLocals = 1 := hml0
  have hown : s.vm.findClass "java/util/AbstractCollection" = some m.cls := findClass_of_methodNamed Bd.named
  have hnm := (name_of_methodNamed Bd.named Bd.method).1
  have X0 : Stand p l e ({ frames := 1, cells := 0, slots := 0, locals := 12 } : Room) s m #[(.ref b2284)] below meth c s₁ [] 0 0 := Stand.of_body Bd
  have e0 : s₁.heap = h0 := by rw [← hh, Bd.state]; rfl
  have N0 := Fr.nil n0
  have pre0 : ∀ t, Steps p.tables e below (s₁.setTop (mkF m 0 #[rv b2284] [])) t → Steps p.tables e below (s₁.setTop (entryFrame m #[(.ref b2284)] 1)) t := fun t k => castTop (ef_43 m b2284) k
  have K0 : Keep h0 h0 [] := Keep.refl h0 []
  have pre2305 : ∀ t, Steps p.tables e below (s₁.setTop (mkF m 1 #[rv b2284] [(.ref b2284)])) t → Steps p.tables e below (s₁.setTop (entryFrame m #[(.ref b2284)] 1)) t := fun t kt => by
    refine pre0 _ ?_
    show Steps p.tables e below (s₁.setTop (mkF m 0 #[rv b2284] [])) _
    refine XS.aloadN X0.here hx rfl (hb hby d16_0) rfl rfl ?_
    exact kt
  obtain ⟨T2306, X2306, e2306, st2306⟩ := initO X0 hx hZ hown (W 74 rfl) (W 19 rfl) (W 20 rfl) e0 (g := (mkF m 1 #[rv b2284] [(.ref b2284)])) rfl (by rw [hml]; rfl) rfl (hb hby d16_1) (by decide) (W := 0) (by show 2 * 0 + _ ≤ _; exact Nat.le_of_eq rfl) (by decide)
  have pre2307 : ∀ t, Steps p.tables e below (T2306.setTop (mkF m 4 #[rv b2284] [])) t → Steps p.tables e below (s₁.setTop (entryFrame m #[(.ref b2284)] 1)) t := fun t kt => pre2305 _ (st2306 _ kt)
  obtain ⟨fs, hr, hrun, hended, hW, hsame⟩ := X2306.leave (v := none) (fun _ => rfl)
  refine ⟨_, _, pre2307 _ (X2306.returnOut hx Bd.returns (hb hby d16_4) hr), hrun, hended, _, _, rfl, ?_, ⟨_, rfl⟩, hW, hsame.mono (by decide) (by decide)⟩
  show Q_init16_0 Z b2284 h0 n0 _ T2306.heap _
  rw [e2306]
  exact ⟨rfl, N0, rfl⟩
theorem pd_44 : parseMethodDescriptor "()V" = some ⟨[], none⟩ := by decide +kernel
theorem d15_4 : decode jdk_39_method_1_code 4 = .ok (.aload_n 0, 1) := by decide +kernel
theorem d15_5 : decode jdk_39_method_1_code 5 = .ok (.iconst 0, 1) := by decide +kernel
theorem d15_6 : decode jdk_39_method_1_code 6 = .ok (.putfield 7, 3) := by decide +kernel
theorem d15_9 : decode jdk_39_method_1_code 9 = .ok (.return_, 1) := by decide +kernel
theorem pn_45 : plainName "java/util/AbstractList" = true := by first | (simp [plainName, overriddenIn]; done) | decide +kernel
theorem ef_46 (m : MethodId) (x0 : Addr) : entryFrame m #[(.ref x0)] 1 = mkF m 0 #[.val (.ref x0)] [] := by first | (simp [entryFrame, mkF, argsToLocals, Value.category]; done) | rfl
def Q_init15_0 (Z : State) (b2284 : Addr) (h0 : Heap) (n0 : Nat) (v : Option Value) (h : Heap) (L : List Loc) : Prop := v = none ∧ Fr n0 L ∧ Keep h0 h [b2284] ∧ Old Z n0 h ∧ Exa Z h b2284 "java/util/ArrayList" ∧ Fld Z h b2284 "java/util/ArrayList" "elementData" "[Ljava/lang/Object;" .null ∧ Fld Z h b2284 "java/util/ArrayList" "size" "I" (.int (0 : Int32)) ∧ Fld Z h b2284 "java/util/AbstractList" "modCount" "I" (.int (0 : Int32))
set_option maxRecDepth 65536 in
set_option maxHeartbeats 40000000 in
theorem rm_init15_0 (l : Launch) (Z : State) (a0 : Array Value) (hw : ∀ d ∈ tables_1, d.before a0 Z = true) (ws : List Jvm.Cond) (b2284 : Addr) (h0 : Heap) (n0 : Nat) (O0 : Old Z n0 h0) (g_b2284 : n0 ≤ b2284) (Fi0 : Exa Z h0 b2284 "java/util/ArrayList") (Fi1 : Fld Z h0 b2284 "java/util/AbstractList" "modCount" "I" (.int (0 : Int32))) (Fi2 : Fld Z h0 b2284 "java/util/ArrayList" "elementData" "[Ljava/lang/Object;" .null) (Fi3 : Fld Z h0 b2284 "java/util/ArrayList" "size" "I" (.int (0 : Int32))) :
    MetFree l (⟨"java/util/AbstractList", "<init>", "()V"⟩ : MethodName) (head1 (Jvm.Cond.code (⟨"java/util/AbstractList", "<init>", "()V"⟩ : MethodName) jdk_39_method_1_code 1 none :: ws) ({ frames := 2, cells := 0, slots := 0, locals := 24 } : Room)) (fun a U => a = #[(.ref b2284)] ∧ Z.Warmed39 U.vm ∧ U.heap = h0) (fun _ _ _ _ _ => True) (fun _ U o U' => ∃ v L, o = .returned v ∧ Q_init15_0 Z b2284 h0 n0 v U'.heap L ∧ FrameEnd U o U' L ({ frames := 2, cells := 0, slots := 0, locals := 24 } : Room).cells ({ frames := 2, cells := 0, slots := 0, locals := 24 } : Room).slots) := by
  refine MetFree.of_bodySF (plainFor_of_name pn_45) hisR ?_
  intro p e s m args below meth c s₁ Bd hml0 hP hK
  have W := fun {d : Jvm.Cond} (i : Nat) (q : tables_1[i]? = some d) => hw d (List.mem_of_getElem? q)
  obtain ⟨rfl, hZ, hh⟩ := hP
  have hx := Bd.exec
  have hby := Bd.bytes
  have hml : c.maxLocals = 1 := hml0
  have hown : s.vm.findClass "java/util/AbstractList" = some m.cls := findClass_of_methodNamed Bd.named
  have hnm := (name_of_methodNamed Bd.named Bd.method).1
  have X0 : Stand p l e ({ frames := 2, cells := 0, slots := 0, locals := 24 } : Room) s m #[(.ref b2284)] below meth c s₁ [] 0 0 := Stand.of_body Bd
  have e0 : s₁.heap = h0 := by rw [← hh, Bd.state]; rfl
  have N0 := Fr.nil n0
  have pre0 : ∀ t, Steps p.tables e below (s₁.setTop (mkF m 0 #[rv b2284] [])) t → Steps p.tables e below (s₁.setTop (entryFrame m #[(.ref b2284)] 1)) t := fun t k => castTop (ef_46 m b2284) k
  have K0 : Keep h0 h0 [b2284] := Keep.refl h0 [b2284]
  have pre2339 : ∀ t, Steps p.tables e below (s₁.setTop (mkF m 1 #[rv b2284] [(.ref b2284)])) t → Steps p.tables e below (s₁.setTop (entryFrame m #[(.ref b2284)] 1)) t := fun t kt => by
    refine pre0 _ ?_
    show Steps p.tables e below (s₁.setTop (mkF m 0 #[rv b2284] [])) _
    refine XS.aloadN X0.here hx rfl (hb hby d15_0) rfl rfl ?_
    exact kt
  obtain ⟨_, _, ⟨T2340, L2340, k2340, n2340⟩, -, X2340, ⟨Lc2340, hQ2340, l2340, y2340, z2340⟩, st2340⟩ := X0.specialBack hx (y := (⟨"java/util/AbstractCollection", "<init>", "()V"⟩ : MethodName)) rfl hown (mvT hZ (W 68 rfl)) (mvT hZ (W 69 rfl)) (mvT hZ (W 73 rfl)) (by decide) (backOf (W := 0) (rm_init16_0 l Z a0 hw [] b2284 h0 n0 O0) hZ (W 73 rfl) (W 72 rfl) (by decide) (by decide)) (g := (mkF m 1 #[rv b2284] [(.ref b2284)])) rfl (by rw [hml]; rfl) (Steps.refl _) (a := b2284) (argsL := []) (rest := []) (lenOf pd_44 rfl) rfl (by show 2 * 0 + _ ≤ _; exact Nat.le_of_eq rfl) (hb hby d15_1) (fun _ _ => ⟨rfl, e0, (by decide : 0 + 0 ≤ _), (by decide : 0 + 0 ≤ _)⟩)
  dsimp only [Pt.U, Pt.locs, Pt.cells, Pt.slots] at X2340 l2340 y2340 z2340 st2340 hQ2340
  subst l2340 y2340 z2340
  obtain ⟨rfl, M2340, e2340⟩ := hQ2340
  have N2340 := Fr.app N0 M2340
  have pre2341 : ∀ t, Steps p.tables e below (T2340.setTop (mkF m 4 #[rv b2284] [])) t → Steps p.tables e below (s₁.setTop (entryFrame m #[(.ref b2284)] 1)) t := fun t kt => pre2339 _ (st2340.trans kt)
  have pre2342 : ∀ t, Steps p.tables e below (T2340.setTop (mkF m 6 #[rv b2284] [(.int (0 : Int32)), (.ref b2284)])) t → Steps p.tables e below (s₁.setTop (entryFrame m #[(.ref b2284)] 1)) t := fun t kt => by
    refine pre2341 _ ?_
    show Steps p.tables e below (T2340.setTop (mkF m 4 #[rv b2284] [])) _
    refine XS.aloadN X2340.here hx rfl (hb hby d15_4) rfl rfl ?_
    refine XS.iconst X2340.here hx rfl (hb hby d15_5) ?_
    exact kt
  obtain ⟨T2343, h2343, X2343, e2343, W2343, st2343⟩ := putF X2340 hx hZ hown (host := "") (Or.inl (W 75 rfl)) Via.refl e2340 Fi1 Fi0 (Or.inl (W 76 rfl)) (W 57 rfl) (ty := .int) (by decide) rfl rfl (g := (mkF m 6 #[rv b2284] [(.int (0 : Int32)), (.ref b2284)])) rfl rfl (hb hby d15_6)
  have pre2344 : ∀ t, Steps p.tables e below (T2343.setTop (mkF m 9 #[rv b2284] [])) t → Steps p.tables e below (s₁.setTop (entryFrame m #[(.ref b2284)] 1)) t := fun t kt => pre2342 _ (st2343 _ kt)
  have N2343 := Fr.snoc X2343 N2340 g_b2284
  have O2343 := O0.wr W2343 g_b2284
  have K2343 : Keep h0 h2343 [b2284] := K0.wr W2343 (Or.inl (List.mem_of_getElem? (i := 0) rfl))
  have F2345 := Fi0.wr W2343
  have F2346 := Fi2.other W2343 (Or.inr (slot_ne (Or.inl (W 79 rfl)) (Or.inl (W 76 rfl)) (by decide) (t := (.array (.object "java/lang/Object"))) (t' := .int) (by decide) (by decide)))
  have F2347 := Fi3.other W2343 (Or.inr (slot_ne (Or.inl (W 106 rfl)) (Or.inl (W 76 rfl)) (by decide) (t := .int) (t' := .int) (by decide) (by decide)))
  have F2348 : Fld Z h2343 b2284 "java/util/AbstractList" "modCount" "I" (.int (0 : Int32)) := Fi1.same W2343
  obtain ⟨fs, hr, hrun, hended, hW, hsame⟩ := X2343.leave (v := none) (fun _ => rfl)
  refine ⟨_, _, pre2344 _ (X2343.returnOut hx Bd.returns (hb hby d15_9) hr), hrun, hended, _, _, rfl, ?_, ⟨_, rfl⟩, hW, hsame.mono (by decide) (by decide)⟩
  show Q_init15_0 Z b2284 h0 n0 _ T2343.heap _
  rw [e2343]
  exact ⟨rfl, N2343, K2343, O2343, F2345, F2346, F2347, F2348⟩
theorem d14_4 : decode jdk_38_method_2_code 4 = .ok (.aload_n 0, 1) := by decide +kernel
theorem d14_5 : decode jdk_38_method_2_code 5 = .ok (.getstatic 39, 3) := by decide +kernel
theorem d14_8 : decode jdk_38_method_2_code 8 = .ok (.putfield 9, 3) := by decide +kernel
theorem d14_11 : decode jdk_38_method_2_code 11 = .ok (.return_, 1) := by decide +kernel
theorem ef_47 (m : MethodId) (x0 : Addr) : entryFrame m #[(.ref x0)] 1 = mkF m 0 #[.val (.ref x0)] [] := by first | (simp [entryFrame, mkF, argsToLocals, Value.category]; done) | rfl
def Q_init14_0 (Z : State) (b2284 : Addr) (ad : Addr) (h0 : Heap) (n0 : Nat) (v : Option Value) (h : Heap) (L : List Loc) : Prop := v = none ∧ Fr n0 L ∧ Keep h0 h [b2284] ∧ Old Z n0 h ∧ Exa Z h b2284 "java/util/ArrayList" ∧ Fld Z h b2284 "java/util/ArrayList" "size" "I" (.int (0 : Int32)) ∧ Fld Z h b2284 "java/util/AbstractList" "modCount" "I" (.int (0 : Int32)) ∧ Fld Z h b2284 "java/util/ArrayList" "elementData" "[Ljava/lang/Object;" (.ref ad)
set_option maxRecDepth 65536 in
set_option maxHeartbeats 40000000 in
theorem rm_init14_0 (l : Launch) (Z : State) (a0 : Array Value) (hw : ∀ d ∈ tables_1, d.before a0 Z = true) (ws : List Jvm.Cond) (b2284 : Addr) (ad : Addr) (h0 : Heap) (n0 : Nat) (O0 : Old Z n0 h0) (G0 : Sta Z Z.heap "java/util/ArrayList" "DEFAULTCAPACITY_EMPTY_ELEMENTDATA" "[Ljava/lang/Object;" (.ref ad)) (g_b2284 : n0 ≤ b2284) (Fi0 : Exa Z h0 b2284 "java/util/ArrayList") (Fi1 : Fld Z h0 b2284 "java/util/AbstractList" "modCount" "I" (.int (0 : Int32))) (Fi2 : Fld Z h0 b2284 "java/util/ArrayList" "elementData" "[Ljava/lang/Object;" .null) (Fi3 : Fld Z h0 b2284 "java/util/ArrayList" "size" "I" (.int (0 : Int32))) :
    MetFree l (⟨"java/util/ArrayList", "<init>", "()V"⟩ : MethodName) (head1 (Jvm.Cond.code (⟨"java/util/ArrayList", "<init>", "()V"⟩ : MethodName) jdk_38_method_2_code 1 none :: ws) ({ frames := 3, cells := 0, slots := 0, locals := 36 } : Room)) (fun a U => a = #[(.ref b2284)] ∧ Z.Warmed39 U.vm ∧ U.heap = h0) (fun _ _ _ _ _ => True) (fun _ U o U' => ∃ v L, o = .returned v ∧ Q_init14_0 Z b2284 ad h0 n0 v U'.heap L ∧ FrameEnd U o U' L ({ frames := 3, cells := 0, slots := 0, locals := 36 } : Room).cells ({ frames := 3, cells := 0, slots := 0, locals := 36 } : Room).slots) := by
  refine MetFree.of_bodySF (plainFor_of_name pn_30) hisR ?_
  intro p e s m args below meth c s₁ Bd hml0 hP hK
  have W := fun {d : Jvm.Cond} (i : Nat) (q : tables_1[i]? = some d) => hw d (List.mem_of_getElem? q)
  obtain ⟨rfl, hZ, hh⟩ := hP
  have hx := Bd.exec
  have hby := Bd.bytes
  have hml : c.maxLocals = 1 := hml0
  have hown : s.vm.findClass "java/util/ArrayList" = some m.cls := findClass_of_methodNamed Bd.named
  have hnm := (name_of_methodNamed Bd.named Bd.method).1
  have X0 : Stand p l e ({ frames := 3, cells := 0, slots := 0, locals := 36 } : Room) s m #[(.ref b2284)] below meth c s₁ [] 0 0 := Stand.of_body Bd
  have e0 : s₁.heap = h0 := by rw [← hh, Bd.state]; rfl
  have N0 := Fr.nil n0
  have pre0 : ∀ t, Steps p.tables e below (s₁.setTop (mkF m 0 #[rv b2284] [])) t → Steps p.tables e below (s₁.setTop (entryFrame m #[(.ref b2284)] 1)) t := fun t k => castTop (ef_47 m b2284) k
  have K0 : Keep h0 h0 [b2284] := Keep.refl h0 [b2284]
  have pre2389 : ∀ t, Steps p.tables e below (s₁.setTop (mkF m 1 #[rv b2284] [(.ref b2284)])) t → Steps p.tables e below (s₁.setTop (entryFrame m #[(.ref b2284)] 1)) t := fun t kt => by
    refine pre0 _ ?_
    show Steps p.tables e below (s₁.setTop (mkF m 0 #[rv b2284] [])) _
    refine XS.aloadN X0.here hx rfl (hb hby d14_0) rfl rfl ?_
    exact kt
  obtain ⟨_, _, ⟨T2390, L2390, k2390, n2390⟩, -, X2390, ⟨Lc2390, hQ2390, l2390, y2390, z2390⟩, st2390⟩ := X0.specialBack hx (y := (⟨"java/util/AbstractList", "<init>", "()V"⟩ : MethodName)) rfl hown (mvT hZ (W 62 rfl)) (mvT hZ (W 63 rfl)) (mvT hZ (W 67 rfl)) (by decide) (backOf (W := 0) (rm_init15_0 l Z a0 hw [] b2284 h0 n0 O0 g_b2284 Fi0 Fi1 Fi2 Fi3) hZ (W 67 rfl) (W 66 rfl) (by decide) (by decide)) (g := (mkF m 1 #[rv b2284] [(.ref b2284)])) rfl (by rw [hml]; rfl) (Steps.refl _) (a := b2284) (argsL := []) (rest := []) (lenOf pd_44 rfl) rfl (by show 2 * 0 + _ ≤ _; exact Nat.le_of_eq rfl) (hb hby d14_1) (fun _ _ => ⟨rfl, e0, (by decide : 0 + 0 ≤ _), (by decide : 0 + 0 ≤ _)⟩)
  dsimp only [Pt.U, Pt.locs, Pt.cells, Pt.slots] at X2390 l2390 y2390 z2390 st2390 hQ2390
  subst l2390 y2390 z2390
  obtain ⟨rfl, M2390, Kc2390, O2390, J2390_0, J2390_1, J2390_2, J2390_3⟩ := hQ2390
  obtain ⟨h2390, e2390⟩ : ∃ z, T2390.heap = z := ⟨_, rfl⟩
  rw [e2390] at Kc2390 O2390 J2390_0 J2390_1 J2390_2 J2390_3
  have N2390 := Fr.app N0 M2390
  have K2390 : Keep h0 h2390 [b2284] := K0.trans Kc2390 (own_all1 (Or.inl (List.mem_of_getElem? (i := 0) rfl)))
  have pre2391 : ∀ t, Steps p.tables e below (T2390.setTop (mkF m 4 #[rv b2284] [])) t → Steps p.tables e below (s₁.setTop (entryFrame m #[(.ref b2284)] 1)) t := fun t kt => pre2389 _ (st2390.trans kt)
  have pre2392 : ∀ t, Steps p.tables e below (T2390.setTop (mkF m 5 #[rv b2284] [(.ref b2284)])) t → Steps p.tables e below (s₁.setTop (entryFrame m #[(.ref b2284)] 1)) t := fun t kt => by
    refine pre2391 _ ?_
    show Steps p.tables e below (T2390.setTop (mkF m 4 #[rv b2284] [])) _
    refine XS.aloadN X2390.here hx rfl (hb hby d14_4) rfl rfl ?_
    exact kt
  obtain ⟨T2393, X2393, e2393, st2393⟩ := getS2 X2390 hx hZ hown (host := "") (Or.inl (W 77 rfl)) Via.refl e2390 (G0.ext O2390.2) (g := (mkF m 5 #[rv b2284] [(.ref b2284)])) rfl (hb hby d14_5)
  have pre2394 : ∀ t, Steps p.tables e below (T2393.setTop (mkF m 8 #[rv b2284] [(.ref ad), (.ref b2284)])) t → Steps p.tables e below (s₁.setTop (entryFrame m #[(.ref b2284)] 1)) t := fun t kt => pre2392 _ (st2393 _ kt)
  obtain ⟨T2395, h2395, X2395, e2395, W2395, st2395⟩ := putF X2393 hx hZ hown (host := "") (Or.inl (W 78 rfl)) Via.refl e2393 J2390_1 J2390_0 (Or.inl (W 79 rfl)) (W 57 rfl) (ty := (.array (.object "java/lang/Object"))) (by decide) rfl rfl (g := (mkF m 8 #[rv b2284] [(.ref ad), (.ref b2284)])) rfl rfl (hb hby d14_8)
  have pre2396 : ∀ t, Steps p.tables e below (T2395.setTop (mkF m 11 #[rv b2284] [])) t → Steps p.tables e below (s₁.setTop (entryFrame m #[(.ref b2284)] 1)) t := fun t kt => pre2394 _ (st2395 _ kt)
  have N2395 := Fr.snoc X2395 N2390 g_b2284
  have O2395 := O2390.wr W2395 g_b2284
  have K2395 : Keep h0 h2395 [b2284] := K2390.wr W2395 (Or.inl (List.mem_of_getElem? (i := 0) rfl))
  have F2397 := J2390_0.wr W2395
  have F2398 := J2390_2.other W2395 (Or.inr (slot_ne (Or.inl (W 106 rfl)) (Or.inl (W 79 rfl)) (by decide) (t := .int) (t' := (.array (.object "java/lang/Object"))) (by decide) (by decide)))
  have F2399 := J2390_3.other W2395 (Or.inr (slot_ne (Or.inl (W 76 rfl)) (Or.inl (W 79 rfl)) (by decide) (t := .int) (t' := (.array (.object "java/lang/Object"))) (by decide) (by decide)))
  have F2400 : Fld Z h2395 b2284 "java/util/ArrayList" "elementData" "[Ljava/lang/Object;" (.ref ad) := J2390_1.same W2395
  obtain ⟨fs, hr, hrun, hended, hW, hsame⟩ := X2395.leave (v := none) (fun _ => rfl)
  refine ⟨_, _, pre2396 _ (X2395.returnOut hx Bd.returns (hb hby d14_11) hr), hrun, hended, _, _, rfl, ?_, ⟨_, rfl⟩, hW, hsame.mono (by decide) (by decide)⟩
  show Q_init14_0 Z b2284 ad h0 n0 _ T2395.heap _
  rw [e2395]
  exact ⟨rfl, N2395, K2395, O2395, F2397, F2398, F2399, F2400⟩
theorem d13_12 : decode prog_42_method_1_code 12 = .ok (.putfield 10, 3) := by decide +kernel
theorem d13_15 : decode prog_42_method_1_code 15 = .ok (.return_, 1) := by decide +kernel
theorem ef_48 (m : MethodId) (x0 : Addr) : entryFrame m #[(.ref x0)] 1 = mkF m 0 #[.val (.ref x0)] [] := by first | (simp [entryFrame, mkF, argsToLocals, Value.category]; done) | rfl
def Q_init13_0 (Z : State) (b2272 : Addr) (ad : Addr) (h0 : Heap) (n0 : Nat) (v : Option Value) (h : Heap) (L : List Loc) : Prop := ∃ (b2446 : Addr), v = none ∧ Fr n0 L ∧ Keep h0 h [b2272] ∧ Old Z n0 h ∧ Exa Z h b2272 "com/example/homethread/homethread/cli/ScenarioReport" ∧ Fld Z h b2272 "com/example/homethread/homethread/cli/ScenarioReport" "differs" "Z" (.int (0 : Int32)) ∧ Exa Z h b2446 "java/util/ArrayList" ∧ Fld Z h b2446 "java/util/ArrayList" "size" "I" (.int (0 : Int32)) ∧ Fld Z h b2446 "java/util/AbstractList" "modCount" "I" (.int (0 : Int32)) ∧ Fld Z h b2446 "java/util/ArrayList" "elementData" "[Ljava/lang/Object;" (.ref ad) ∧ Fld Z h b2272 "com/example/homethread/homethread/cli/ScenarioReport" "lines" "Ljava/util/List;" (.ref b2446) ∧ (h0.size ≤ b2446)
set_option maxRecDepth 65536 in
set_option maxHeartbeats 40000000 in
theorem rm_init13_0 (l : Launch) (Z : State) (a0 : Array Value) (hw : ∀ d ∈ tables_1, d.before a0 Z = true) (ws : List Jvm.Cond) (b2272 : Addr) (ad : Addr) (h0 : Heap) (n0 : Nat) (O0 : Old Z n0 h0) (G0 : Sta Z Z.heap "java/util/ArrayList" "DEFAULTCAPACITY_EMPTY_ELEMENTDATA" "[Ljava/lang/Object;" (.ref ad)) (g_b2272 : n0 ≤ b2272) (Fi0 : Exa Z h0 b2272 "com/example/homethread/homethread/cli/ScenarioReport") (Fi1 : Fld Z h0 b2272 "com/example/homethread/homethread/cli/ScenarioReport" "lines" "Ljava/util/List;" .null) (Fi2 : Fld Z h0 b2272 "com/example/homethread/homethread/cli/ScenarioReport" "differs" "Z" (.int (0 : Int32))) :
    MetFree l (⟨"com/example/homethread/homethread/cli/ScenarioReport", "<init>", "()V"⟩ : MethodName) (head1 (Jvm.Cond.code (⟨"com/example/homethread/homethread/cli/ScenarioReport", "<init>", "()V"⟩ : MethodName) prog_42_method_1_code 1 none :: ws) ({ frames := 4, cells := 1, slots := 3, locals := 50 } : Room)) (fun a U => a = #[(.ref b2272)] ∧ Z.Warmed39 U.vm ∧ U.heap = h0) (fun _ _ _ _ _ => True) (fun _ U o U' => ∃ v L, o = .returned v ∧ Q_init13_0 Z b2272 ad h0 n0 v U'.heap L ∧ FrameEnd U o U' L ({ frames := 4, cells := 1, slots := 3, locals := 50 } : Room).cells ({ frames := 4, cells := 1, slots := 3, locals := 50 } : Room).slots) := by
  refine MetFree.of_bodySF (plainFor_of_name pn_25) hisR ?_
  intro p e s m args below meth c s₁ Bd hml0 hP hK
  have W := fun {d : Jvm.Cond} (i : Nat) (q : tables_1[i]? = some d) => hw d (List.mem_of_getElem? q)
  obtain ⟨rfl, hZ, hh⟩ := hP
  have hx := Bd.exec
  have hby := Bd.bytes
  have hml : c.maxLocals = 1 := hml0
  have hown : s.vm.findClass "com/example/homethread/homethread/cli/ScenarioReport" = some m.cls := findClass_of_methodNamed Bd.named
  have hnm := (name_of_methodNamed Bd.named Bd.method).1
  have X0 : Stand p l e ({ frames := 4, cells := 1, slots := 3, locals := 50 } : Room) s m #[(.ref b2272)] below meth c s₁ [] 0 0 := Stand.of_body Bd
  have e0 : s₁.heap = h0 := by rw [← hh, Bd.state]; rfl
  have N0 := Fr.nil n0
  have pre0 : ∀ t, Steps p.tables e below (s₁.setTop (mkF m 0 #[rv b2272] [])) t → Steps p.tables e below (s₁.setTop (entryFrame m #[(.ref b2272)] 1)) t := fun t k => castTop (ef_48 m b2272) k
  have K0 : Keep h0 h0 [b2272] := Keep.refl h0 [b2272]
  have pre2442 : ∀ t, Steps p.tables e below (s₁.setTop (mkF m 1 #[rv b2272] [(.ref b2272)])) t → Steps p.tables e below (s₁.setTop (entryFrame m #[(.ref b2272)] 1)) t := fun t kt => by
    refine pre0 _ ?_
    show Steps p.tables e below (s₁.setTop (mkF m 0 #[rv b2272] [])) _
    refine XS.aloadN X0.here hx rfl (hb hby d13_0) rfl rfl ?_
    exact kt
  obtain ⟨T2443, X2443, e2443, st2443⟩ := initO X0 hx hZ hown (W 55 rfl) (W 19 rfl) (W 20 rfl) e0 (g := (mkF m 1 #[rv b2272] [(.ref b2272)])) rfl (by rw [hml]; rfl) rfl (hb hby d13_1) (by decide) (W := 0) (by show 2 * 0 + _ ≤ _; exact Nat.le_of_eq rfl) (by decide)
  have pre2444 : ∀ t, Steps p.tables e below (T2443.setTop (mkF m 4 #[rv b2272] [])) t → Steps p.tables e below (s₁.setTop (entryFrame m #[(.ref b2272)] 1)) t := fun t kt => pre2442 _ (st2443 _ kt)
  have pre2445 : ∀ t, Steps p.tables e below (T2443.setTop (mkF m 5 #[rv b2272] [(.ref b2272)])) t → Steps p.tables e below (s₁.setTop (entryFrame m #[(.ref b2272)] 1)) t := fun t kt => by
    refine pre2444 _ ?_
    show Steps p.tables e below (T2443.setTop (mkF m 4 #[rv b2272] [])) _
    refine XS.aloadN X2443.here hx rfl (hb hby d13_4) rfl rfl ?_
    exact kt
  obtain ⟨T2446, h2446, X2446, e2446, E2446, A2446, D2446, -, st2446⟩ := newO X2443 hx hZ hown (W 56 rfl) (W 57 rfl) (W 58 rfl) e2443 (g := (mkF m 5 #[rv b2272] [(.ref b2272)])) rfl (hb hby d13_5) (by decide) (by decide)
  obtain ⟨b2446, g2446⟩ : ∃ z, z = h0.size := ⟨_, rfl⟩
  rw [← g2446] at A2446 D2446 st2446
  have pre2447 : ∀ t, Steps p.tables e below (T2446.setTop (mkF m 8 #[rv b2272] [(.ref b2446), (.ref b2272)])) t → Steps p.tables e below (s₁.setTop (entryFrame m #[(.ref b2272)] 1)) t := fun t kt => pre2445 _ (st2446 _ kt)
  have O2446 := O0.ext E2446
  have K2446 : Keep h0 h2446 [b2272] := K0.ext E2446
  have F2448 := Fi0.ext E2446
  have F2449 := Fi1.ext E2446
  have F2450 := Fi2.ext E2446
  have g_b2446 : n0 ≤ b2446 := Nat.le_trans (Nat.le_trans (Nat.le_of_eq O0.1.symm) O0.2.1) (Nat.le_of_eq g2446.symm)
  have sz_b2446 : h0.size ≤ b2446 := Nat.le_trans K0.1 (Nat.le_of_eq g2446.symm)
  have ne_b2272_b2446 : b2272 ≠ b2446 := Nat.ne_of_lt (Nat.lt_of_lt_of_le Fi0.lt (Nat.le_of_eq g2446.symm))
  have F2451 : Exa Z h2446 b2446 "java/util/ArrayList" := A2446
  have F2452 : Fld Z h2446 b2446 "java/util/AbstractList" "modCount" "I" (.int (0 : Int32)) := D2446 (Or.inl (W 76 rfl)) (ty := .int) (by decide)
  have F2453 : Fld Z h2446 b2446 "java/util/ArrayList" "elementData" "[Ljava/lang/Object;" .null := D2446 (Or.inl (W 79 rfl)) (ty := (.array (.object "java/lang/Object"))) (by decide)
  have F2454 : Fld Z h2446 b2446 "java/util/ArrayList" "size" "I" (.int (0 : Int32)) := D2446 (Or.inl (W 106 rfl)) (ty := .int) (by decide)
  have pre2455 : ∀ t, Steps p.tables e below (T2446.setTop (mkF m 9 #[rv b2272] [(.ref b2446), (.ref b2446), (.ref b2272)])) t → Steps p.tables e below (s₁.setTop (entryFrame m #[(.ref b2272)] 1)) t := fun t kt => by
    refine pre2447 _ ?_
    show Steps p.tables e below (T2446.setTop (mkF m 8 #[rv b2272] [(.ref b2446), (.ref b2272)])) _
    refine XS.dup X2446.here hx rfl (hb hby d13_8) rfl rfl ?_
    exact kt
  obtain ⟨_, _, ⟨T2456, L2456, k2456, n2456⟩, -, X2456, ⟨Lc2456, hQ2456, l2456, y2456, z2456⟩, st2456⟩ := X2446.specialBack hx (y := (⟨"java/util/ArrayList", "<init>", "()V"⟩ : MethodName)) rfl hown (mvT hZ (W 59 rfl)) (mvT hZ (W 60 rfl)) (mvT hZ (W 61 rfl)) (by decide) (backOf (W := 2) (rm_init14_0 l Z a0 hw [] b2446 ad h2446 n0 O2446 G0 g_b2446 F2451 F2452 F2453 F2454) hZ (W 61 rfl) (W 58 rfl) (by decide) (by decide)) (g := (mkF m 9 #[rv b2272] [(.ref b2446), (.ref b2446), (.ref b2272)])) rfl (by rw [hml]; rfl) (Steps.refl _) (a := b2446) (argsL := []) (rest := [(.ref b2446), (.ref b2272)]) (lenOf pd_44 rfl) rfl (by show 2 * 0 + _ ≤ _; exact Nat.le_of_eq rfl) (hb hby d13_9) (fun _ _ => ⟨rfl, e2446, (by decide : 1 + 0 ≤ _), (by decide : 3 + 0 ≤ _)⟩)
  dsimp only [Pt.U, Pt.locs, Pt.cells, Pt.slots] at X2456 l2456 y2456 z2456 st2456 hQ2456
  subst l2456 y2456 z2456
  obtain ⟨rfl, M2456, Kc2456, O2456, J2456_0, J2456_1, J2456_2, J2456_3⟩ := hQ2456
  obtain ⟨h2456, e2456⟩ : ∃ z, T2456.heap = z := ⟨_, rfl⟩
  rw [e2456] at Kc2456 O2456 J2456_0 J2456_1 J2456_2 J2456_3
  have N2456 := Fr.app N0 M2456
  have K2456 : Keep h0 h2456 [b2272] := K2446.trans Kc2456 (own_all1 (Or.inr sz_b2446))
  have pre2457 : ∀ t, Steps p.tables e below (T2456.setTop (mkF m 12 #[rv b2272] [(.ref b2446), (.ref b2272)])) t → Steps p.tables e below (s₁.setTop (entryFrame m #[(.ref b2272)] 1)) t := fun t kt => pre2455 _ (st2456.trans kt)
  have F2458 := F2448.keep Kc2456
  have F2459 := F2449.keep Kc2456 (own_nm1 ne_b2272_b2446)
  have F2460 := F2450.keep Kc2456 (own_nm1 ne_b2272_b2446)
  obtain ⟨T2461, h2461, X2461, e2461, W2461, st2461⟩ := putF X2456 hx hZ hown (host := "") (Or.inl (W 80 rfl)) Via.refl e2456 F2459 F2458 (Or.inr ⟨(W 81 rfl), rfl, hnm⟩) (W 50 rfl) (ty := (.object "java/util/List")) (by decide) rfl rfl (g := (mkF m 12 #[rv b2272] [(.ref b2446), (.ref b2272)])) rfl rfl (hb hby d13_12)
  have pre2462 : ∀ t, Steps p.tables e below (T2461.setTop (mkF m 15 #[rv b2272] [])) t → Steps p.tables e below (s₁.setTop (entryFrame m #[(.ref b2272)] 1)) t := fun t kt => pre2457 _ (st2461 _ kt)
  have N2461 := Fr.snoc X2461 N2456 g_b2272
  have O2461 := O2456.wr W2461 g_b2272
  have K2461 : Keep h0 h2461 [b2272] := K2456.wr W2461 (Or.inl (List.mem_of_getElem? (i := 0) rfl))
  have F2463 := F2458.wr W2461
  have F2464 := F2460.other W2461 (Or.inr (slot_ne (Or.inl (W 88 rfl)) (Or.inr (W 81 rfl)) (by decide) (t := .boolean) (t' := (.object "java/util/List")) (by decide) (by decide)))
  have F2465 := J2456_0.wr W2461
  have F2466 := J2456_1.other W2461 (Or.inl (fun q => ne_b2272_b2446 q.symm))
  have F2467 := J2456_2.other W2461 (Or.inl (fun q => ne_b2272_b2446 q.symm))
  have F2468 := J2456_3.other W2461 (Or.inl (fun q => ne_b2272_b2446 q.symm))
  have F2469 : Fld Z h2461 b2272 "com/example/homethread/homethread/cli/ScenarioReport" "lines" "Ljava/util/List;" (.ref b2446) := F2459.same W2461
  obtain ⟨fs, hr, hrun, hended, hW, hsame⟩ := X2461.leave (v := none) (fun _ => rfl)
  refine ⟨_, _, pre2462 _ (X2461.returnOut hx Bd.returns (hb hby d13_15) hr), hrun, hended, _, _, rfl, ?_, ⟨_, rfl⟩, hW, hsame.mono (by decide) (by decide)⟩
  show Q_init13_0 Z b2272 ad h0 n0 _ T2461.heap _
  rw [e2461]
  exact ⟨b2446, rfl, N2461, K2461, O2461, F2463, F2464, F2465, F2466, F2467, F2468, F2469, sz_b2446⟩
theorem d17_0 : decode prog_42_method_5_code 0 = .ok (.aload_n 0, 1) := by decide +kernel
theorem d17_1 : decode prog_42_method_5_code 1 = .ok (.getfield 39, 3) := by decide +kernel
theorem d17_4 : decode prog_42_method_5_code 4 = .ok (.ifCond .eq 7, 3) := by decide +kernel
theorem d17_11 : decode prog_42_method_5_code 11 = .ok (.iconst 0, 1) := by decide +kernel
theorem d17_12 : decode prog_42_method_5_code 12 = .ok (.ireturn, 1) := by decide +kernel
theorem ef_49 (m : MethodId) (x0 : Addr) : entryFrame m #[(.ref x0)] 1 = mkF m 0 #[.val (.ref x0)] [] := by first | (simp [entryFrame, mkF, argsToLocals, Value.category]; done) | rfl
def Q_exitStatus17_0 (Z : State) (b2272 : Addr) (h0 : Heap) (n0 : Nat) (v : Option Value) (h : Heap) (L : List Loc) : Prop := v = some (.int (0 : Int32)) ∧ Fr n0 L ∧ h = h0
set_option maxRecDepth 65536 in
set_option maxHeartbeats 40000000 in
theorem rm_exitStatus17_0 (l : Launch) (Z : State) (a0 : Array Value) (hw : ∀ d ∈ tables_1, d.before a0 Z = true) (ws : List Jvm.Cond) (b2272 : Addr) (h0 : Heap) (n0 : Nat) (O0 : Old Z n0 h0) (Fi0 : Fld Z h0 b2272 "com/example/homethread/homethread/cli/ScenarioReport" "differs" "Z" (.int (0 : Int32))) :
    MetFree l (⟨"com/example/homethread/homethread/cli/ScenarioReport", "exitStatus", "()I"⟩ : MethodName) (head1 (Jvm.Cond.code (⟨"com/example/homethread/homethread/cli/ScenarioReport", "exitStatus", "()I"⟩ : MethodName) prog_42_method_5_code 1 (some .int) :: ws) ({ frames := 0, cells := 0, slots := 0, locals := 0 } : Room)) (fun a U => a = #[(.ref b2272)] ∧ Z.Warmed39 U.vm ∧ U.heap = h0) (fun _ _ _ _ _ => True) (fun _ U o U' => ∃ v L, o = .returned v ∧ Q_exitStatus17_0 Z b2272 h0 n0 v U'.heap L ∧ FrameEnd U o U' L ({ frames := 0, cells := 0, slots := 0, locals := 0 } : Room).cells ({ frames := 0, cells := 0, slots := 0, locals := 0 } : Room).slots) := by
  refine MetFree.of_bodySF (plainFor_of_name pn_25) hisR ?_
  intro p e s m args below meth c s₁ Bd hml0 hP hK
  have W := fun {d : Jvm.Cond} (i : Nat) (q : tables_1[i]? = some d) => hw d (List.mem_of_getElem? q)
  obtain ⟨rfl, hZ, hh⟩ := hP
  have hx := Bd.exec
  have hby := Bd.bytes
  have hml : c.maxLocals = 1 := hml0
  have hown : s.vm.findClass "com/example/homethread/homethread/cli/ScenarioReport" = some m.cls := findClass_of_methodNamed Bd.named
  have hnm := (name_of_methodNamed Bd.named Bd.method).1
  have X0 : Stand p l e ({ frames := 0, cells := 0, slots := 0, locals := 0 } : Room) s m #[(.ref b2272)] below meth c s₁ [] 0 0 := Stand.of_body Bd
  have e0 : s₁.heap = h0 := by rw [← hh, Bd.state]; rfl
  have N0 := Fr.nil n0
  have pre0 : ∀ t, Steps p.tables e below (s₁.setTop (mkF m 0 #[rv b2272] [])) t → Steps p.tables e below (s₁.setTop (entryFrame m #[(.ref b2272)] 1)) t := fun t k => castTop (ef_49 m b2272) k
  have K0 : Keep h0 h0 [] := Keep.refl h0 []
  have pre2482 : ∀ t, Steps p.tables e below (s₁.setTop (mkF m 1 #[rv b2272] [(.ref b2272)])) t → Steps p.tables e below (s₁.setTop (entryFrame m #[(.ref b2272)] 1)) t := fun t kt => by
    refine pre0 _ ?_
    show Steps p.tables e below (s₁.setTop (mkF m 0 #[rv b2272] [])) _
    refine XS.aloadN X0.here hx rfl (hb hby d17_0) rfl rfl ?_
    exact kt
  obtain ⟨T2483, X2483, e2483, st2483⟩ := getF X0 hx hZ hown (host := "") (Or.inl (W 87 rfl)) Via.refl e0 Fi0 (g := (mkF m 1 #[rv b2272] [(.ref b2272)])) rfl rfl (hb hby d17_1)
  have pre2484 : ∀ t, Steps p.tables e below (T2483.setTop (mkF m 4 #[rv b2272] [(.int (0 : Int32))])) t → Steps p.tables e below (s₁.setTop (entryFrame m #[(.ref b2272)] 1)) t := fun t kt => pre2482 _ (st2483 _ kt)
  have pre2485 : ∀ t, Steps p.tables e below (T2483.setTop (mkF m 12 #[rv b2272] [(.int (0 : Int32))])) t → Steps p.tables e below (s₁.setTop (entryFrame m #[(.ref b2272)] 1)) t := fun t kt => by
    refine pre2484 _ ?_
    show Steps p.tables e below (T2483.setTop (mkF m 4 #[rv b2272] [(.int (0 : Int32))])) _
    refine XS.ifYes X2483.here hx rfl (pc0 := 4) (pc' := 11) rfl (hb hby d17_4) rfl (XT.i0_eq_t (by decide)) (by decide) (by decide) ?_
    refine XS.iconst X2483.here hx rfl (hb hby d17_11) ?_
    exact kt
  obtain ⟨fs, hr, hrun, hended, hW, hsame⟩ := X2483.leave (v := some (.int (0 : Int32))) (fun h => by rw [Bd.returns] at h; cases h)
  refine ⟨_, _, pre2485 _ (retI X2483 hx Bd.returns (hb hby d17_12) hr), hrun, hended, _, _, rfl, ?_, ⟨_, rfl⟩, hW, hsame.mono (by decide) (by decide)⟩
  show Q_exitStatus17_0 Z b2272 h0 n0 _ T2483.heap _
  rw [e2483]
  exact ⟨rfl, N0, rfl⟩
theorem pd_50 : parseMethodDescriptor "()I" = some ⟨[], some .int⟩ := by decide +kernel
theorem d26_0 : decode method_8_code 0 = .ok (.iload_n 0, 1) := by decide +kernel
theorem d26_1 : decode method_8_code 1 = .ok (.ifCond .eq 7, 3) := by decide +kernel
theorem d26_8 : decode method_8_code 8 = .ok (.iconst 0, 1) := by decide +kernel
theorem d26_9 : decode method_8_code 9 = .ok (.ireturn, 1) := by decide +kernel
theorem ef_51 (m : MethodId) (x0 : Int32) : entryFrame m #[(.int x0)] 1 = mkF m 0 #[.val (.int x0)] [] := by first | (simp [entryFrame, mkF, argsToLocals, Value.category]; done) | rfl
def Q_want26_0 (Z : State)  (h0 : Heap) (n0 : Nat) (v : Option Value) (h : Heap) (L : List Loc) : Prop := v = some (.int (0 : Int32)) ∧ Fr n0 L ∧ h = h0
set_option maxRecDepth 65536 in
set_option maxHeartbeats 40000000 in
theorem rm_want26_0 (l : Launch) (Z : State) (a0 : Array Value) (hw : ∀ d ∈ tables_1, d.before a0 Z = true) (ws : List Jvm.Cond)  (h0 : Heap) (n0 : Nat) (O0 : Old Z n0 h0) :
    MetFree l (⟨"com/example/homethread/homethread/cli/ScenarioReportExitStatusPinLaw", "want", "(Z)I"⟩ : MethodName) (head1 (Jvm.Cond.code (⟨"com/example/homethread/homethread/cli/ScenarioReportExitStatusPinLaw", "want", "(Z)I"⟩ : MethodName) method_8_code 1 (some .int) :: ws) ({ frames := 0, cells := 0, slots := 0, locals := 0 } : Room)) (fun a U => a = #[(.int (0 : Int32))] ∧ Z.Warmed39 U.vm ∧ U.heap = h0) (fun _ _ _ _ _ => True) (fun _ U o U' => ∃ v L, o = .returned v ∧ Q_want26_0 Z  h0 n0 v U'.heap L ∧ FrameEnd U o U' L ({ frames := 0, cells := 0, slots := 0, locals := 0 } : Room).cells ({ frames := 0, cells := 0, slots := 0, locals := 0 } : Room).slots) := by
  refine MetFree.of_bodySF (plainFor_of_name pn_0) hisR ?_
  intro p e s m args below meth c s₁ Bd hml0 hP hK
  have W := fun {d : Jvm.Cond} (i : Nat) (q : tables_1[i]? = some d) => hw d (List.mem_of_getElem? q)
  obtain ⟨rfl, hZ, hh⟩ := hP
  have hx := Bd.exec
  have hby := Bd.bytes
  have hml : c.maxLocals = 1 := hml0
  have hown : s.vm.findClass "com/example/homethread/homethread/cli/ScenarioReportExitStatusPinLaw" = some m.cls := findClass_of_methodNamed Bd.named
  have hnm := (name_of_methodNamed Bd.named Bd.method).1
  have X0 : Stand p l e ({ frames := 0, cells := 0, slots := 0, locals := 0 } : Room) s m #[(.int (0 : Int32))] below meth c s₁ [] 0 0 := Stand.of_body Bd
  have e0 : s₁.heap = h0 := by rw [← hh, Bd.state]; rfl
  have N0 := Fr.nil n0
  have pre0 : ∀ t, Steps p.tables e below (s₁.setTop (mkF m 0 #[iv (0 : Int32)] [])) t → Steps p.tables e below (s₁.setTop (entryFrame m #[(.int (0 : Int32))] 1)) t := fun t k => castTop (ef_51 m (0 : Int32)) k
  have K0 : Keep h0 h0 [] := Keep.refl h0 []
  have pre2496 : ∀ t, Steps p.tables e below (s₁.setTop (mkF m 9 #[iv (0 : Int32)] [(.int (0 : Int32))])) t → Steps p.tables e below (s₁.setTop (entryFrame m #[(.int (0 : Int32))] 1)) t := fun t kt => by
    refine pre0 _ ?_
    show Steps p.tables e below (s₁.setTop (mkF m 0 #[iv (0 : Int32)] [])) _
    refine XS.iloadN X0.here hx rfl (hb hby d26_0) rfl ?_
    refine XS.ifYes X0.here hx rfl (pc0 := 1) (pc' := 8) rfl (hb hby d26_1) rfl (XT.i0_eq_t (by decide)) (by decide) (by decide) ?_
    refine XS.iconst X0.here hx rfl (hb hby d26_8) ?_
    exact kt
  obtain ⟨fs, hr, hrun, hended, hW, hsame⟩ := X0.leave (v := some (.int (0 : Int32))) (fun h => by rw [Bd.returns] at h; cases h)
  refine ⟨_, _, pre2496 _ (retI X0 hx Bd.returns (hb hby d26_9) hr), hrun, hended, _, _, rfl, ?_, ⟨_, rfl⟩, hW, hsame.mono (by decide) (by decide)⟩
  show Q_want26_0 Z  h0 n0 _ s₁.heap _
  rw [e0]
  exact ⟨rfl, N0, rfl⟩
theorem pd_52 : parseMethodDescriptor "(Z)I" = some ⟨[.boolean], some .int⟩ := by decide +kernel
theorem pd_53 : parseMethodDescriptor "(Ljava/lang/String;Ljava/lang/String;)V" = some ⟨[(.object "java/lang/String"), (.object "java/lang/String")], none⟩ := by decide +kernel
theorem d17_7 : decode prog_42_method_5_code 7 = .ok (.iconst 1, 1) := by decide +kernel
theorem d17_8 : decode prog_42_method_5_code 8 = .ok (.goto 4, 3) := by decide +kernel
def Q_exitStatus17_1 (Z : State) (b2272 : Addr) (h0 : Heap) (n0 : Nat) (v : Option Value) (h : Heap) (L : List Loc) : Prop := v = some (.int (1 : Int32)) ∧ Fr n0 L ∧ h = h0
set_option maxRecDepth 65536 in
set_option maxHeartbeats 40000000 in
theorem rm_exitStatus17_1 (l : Launch) (Z : State) (a0 : Array Value) (hw : ∀ d ∈ tables_1, d.before a0 Z = true) (ws : List Jvm.Cond) (b2272 : Addr) (h0 : Heap) (n0 : Nat) (O0 : Old Z n0 h0) (Fi0 : Fld Z h0 b2272 "com/example/homethread/homethread/cli/ScenarioReport" "differs" "Z" (.int (1 : Int32))) :
    MetFree l (⟨"com/example/homethread/homethread/cli/ScenarioReport", "exitStatus", "()I"⟩ : MethodName) (head1 (Jvm.Cond.code (⟨"com/example/homethread/homethread/cli/ScenarioReport", "exitStatus", "()I"⟩ : MethodName) prog_42_method_5_code 1 (some .int) :: ws) ({ frames := 0, cells := 0, slots := 0, locals := 0 } : Room)) (fun a U => a = #[(.ref b2272)] ∧ Z.Warmed39 U.vm ∧ U.heap = h0) (fun _ _ _ _ _ => True) (fun _ U o U' => ∃ v L, o = .returned v ∧ Q_exitStatus17_1 Z b2272 h0 n0 v U'.heap L ∧ FrameEnd U o U' L ({ frames := 0, cells := 0, slots := 0, locals := 0 } : Room).cells ({ frames := 0, cells := 0, slots := 0, locals := 0 } : Room).slots) := by
  refine MetFree.of_bodySF (plainFor_of_name pn_25) hisR ?_
  intro p e s m args below meth c s₁ Bd hml0 hP hK
  have W := fun {d : Jvm.Cond} (i : Nat) (q : tables_1[i]? = some d) => hw d (List.mem_of_getElem? q)
  obtain ⟨rfl, hZ, hh⟩ := hP
  have hx := Bd.exec
  have hby := Bd.bytes
  have hml : c.maxLocals = 1 := hml0
  have hown : s.vm.findClass "com/example/homethread/homethread/cli/ScenarioReport" = some m.cls := findClass_of_methodNamed Bd.named
  have hnm := (name_of_methodNamed Bd.named Bd.method).1
  have X0 : Stand p l e ({ frames := 0, cells := 0, slots := 0, locals := 0 } : Room) s m #[(.ref b2272)] below meth c s₁ [] 0 0 := Stand.of_body Bd
  have e0 : s₁.heap = h0 := by rw [← hh, Bd.state]; rfl
  have N0 := Fr.nil n0
  have pre0 : ∀ t, Steps p.tables e below (s₁.setTop (mkF m 0 #[rv b2272] [])) t → Steps p.tables e below (s₁.setTop (entryFrame m #[(.ref b2272)] 1)) t := fun t k => castTop (ef_49 m b2272) k
  have K0 : Keep h0 h0 [] := Keep.refl h0 []
  have pre2515 : ∀ t, Steps p.tables e below (s₁.setTop (mkF m 1 #[rv b2272] [(.ref b2272)])) t → Steps p.tables e below (s₁.setTop (entryFrame m #[(.ref b2272)] 1)) t := fun t kt => by
    refine pre0 _ ?_
    show Steps p.tables e below (s₁.setTop (mkF m 0 #[rv b2272] [])) _
    refine XS.aloadN X0.here hx rfl (hb hby d17_0) rfl rfl ?_
    exact kt
  obtain ⟨T2516, X2516, e2516, st2516⟩ := getF X0 hx hZ hown (host := "") (Or.inl (W 87 rfl)) Via.refl e0 Fi0 (g := (mkF m 1 #[rv b2272] [(.ref b2272)])) rfl rfl (hb hby d17_1)
  have pre2517 : ∀ t, Steps p.tables e below (T2516.setTop (mkF m 4 #[rv b2272] [(.int (1 : Int32))])) t → Steps p.tables e below (s₁.setTop (entryFrame m #[(.ref b2272)] 1)) t := fun t kt => pre2515 _ (st2516 _ kt)
  have pre2518 : ∀ t, Steps p.tables e below (T2516.setTop (mkF m 12 #[rv b2272] [(.int (1 : Int32))])) t → Steps p.tables e below (s₁.setTop (entryFrame m #[(.ref b2272)] 1)) t := fun t kt => by
    refine pre2517 _ ?_
    show Steps p.tables e below (T2516.setTop (mkF m 4 #[rv b2272] [(.int (1 : Int32))])) _
    refine XS.ifNo X2516.here hx rfl (hb hby d17_4) rfl (XT.i0_eq_f (by decide)) ?_
    refine XS.iconst X2516.here hx rfl (hb hby d17_7) ?_
    refine XS.goto X2516.here hx rfl (pc0 := 8) (pc' := 12) rfl (hb hby d17_8) (by decide) (by decide) ?_
    exact kt
  obtain ⟨fs, hr, hrun, hended, hW, hsame⟩ := X2516.leave (v := some (.int (1 : Int32))) (fun h => by rw [Bd.returns] at h; cases h)
  refine ⟨_, _, pre2518 _ (retI X2516 hx Bd.returns (hb hby d17_12) hr), hrun, hended, _, _, rfl, ?_, ⟨_, rfl⟩, hW, hsame.mono (by decide) (by decide)⟩
  show Q_exitStatus17_1 Z b2272 h0 n0 _ T2516.heap _
  rw [e2516]
  exact ⟨rfl, N0, rfl⟩
theorem d26_4 : decode method_8_code 4 = .ok (.iconst 1, 1) := by decide +kernel
theorem d26_5 : decode method_8_code 5 = .ok (.goto 4, 3) := by decide +kernel
def Q_want26_1 (Z : State)  (h0 : Heap) (n0 : Nat) (v : Option Value) (h : Heap) (L : List Loc) : Prop := v = some (.int (1 : Int32)) ∧ Fr n0 L ∧ h = h0
set_option maxRecDepth 65536 in
set_option maxHeartbeats 40000000 in
theorem rm_want26_1 (l : Launch) (Z : State) (a0 : Array Value) (hw : ∀ d ∈ tables_1, d.before a0 Z = true) (ws : List Jvm.Cond)  (h0 : Heap) (n0 : Nat) (O0 : Old Z n0 h0) :
    MetFree l (⟨"com/example/homethread/homethread/cli/ScenarioReportExitStatusPinLaw", "want", "(Z)I"⟩ : MethodName) (head1 (Jvm.Cond.code (⟨"com/example/homethread/homethread/cli/ScenarioReportExitStatusPinLaw", "want", "(Z)I"⟩ : MethodName) method_8_code 1 (some .int) :: ws) ({ frames := 0, cells := 0, slots := 0, locals := 0 } : Room)) (fun a U => a = #[(.int (1 : Int32))] ∧ Z.Warmed39 U.vm ∧ U.heap = h0) (fun _ _ _ _ _ => True) (fun _ U o U' => ∃ v L, o = .returned v ∧ Q_want26_1 Z  h0 n0 v U'.heap L ∧ FrameEnd U o U' L ({ frames := 0, cells := 0, slots := 0, locals := 0 } : Room).cells ({ frames := 0, cells := 0, slots := 0, locals := 0 } : Room).slots) := by
  refine MetFree.of_bodySF (plainFor_of_name pn_0) hisR ?_
  intro p e s m args below meth c s₁ Bd hml0 hP hK
  have W := fun {d : Jvm.Cond} (i : Nat) (q : tables_1[i]? = some d) => hw d (List.mem_of_getElem? q)
  obtain ⟨rfl, hZ, hh⟩ := hP
  have hx := Bd.exec
  have hby := Bd.bytes
  have hml : c.maxLocals = 1 := hml0
  have hown : s.vm.findClass "com/example/homethread/homethread/cli/ScenarioReportExitStatusPinLaw" = some m.cls := findClass_of_methodNamed Bd.named
  have hnm := (name_of_methodNamed Bd.named Bd.method).1
  have X0 : Stand p l e ({ frames := 0, cells := 0, slots := 0, locals := 0 } : Room) s m #[(.int (1 : Int32))] below meth c s₁ [] 0 0 := Stand.of_body Bd
  have e0 : s₁.heap = h0 := by rw [← hh, Bd.state]; rfl
  have N0 := Fr.nil n0
  have pre0 : ∀ t, Steps p.tables e below (s₁.setTop (mkF m 0 #[iv (1 : Int32)] [])) t → Steps p.tables e below (s₁.setTop (entryFrame m #[(.int (1 : Int32))] 1)) t := fun t k => castTop (ef_51 m (1 : Int32)) k
  have K0 : Keep h0 h0 [] := Keep.refl h0 []
  have pre2524 : ∀ t, Steps p.tables e below (s₁.setTop (mkF m 9 #[iv (1 : Int32)] [(.int (1 : Int32))])) t → Steps p.tables e below (s₁.setTop (entryFrame m #[(.int (1 : Int32))] 1)) t := fun t kt => by
    refine pre0 _ ?_
    show Steps p.tables e below (s₁.setTop (mkF m 0 #[iv (1 : Int32)] [])) _
    refine XS.iloadN X0.here hx rfl (hb hby d26_0) rfl ?_
    refine XS.ifNo X0.here hx rfl (hb hby d26_1) rfl (XT.i0_eq_f (by decide)) ?_
    refine XS.iconst X0.here hx rfl (hb hby d26_4) ?_
    refine XS.goto X0.here hx rfl (pc0 := 5) (pc' := 9) rfl (hb hby d26_5) (by decide) (by decide) ?_
    exact kt
  obtain ⟨fs, hr, hrun, hended, hW, hsame⟩ := X0.leave (v := some (.int (1 : Int32))) (fun h => by rw [Bd.returns] at h; cases h)
  refine ⟨_, _, pre2524 _ (retI X0 hx Bd.returns (hb hby d26_9) hr), hrun, hended, _, _, rfl, ?_, ⟨_, rfl⟩, hW, hsame.mono (by decide) (by decide)⟩
  show Q_want26_1 Z  h0 n0 _ s₁.heap _
  rw [e0]
  exact ⟨rfl, N0, rfl⟩
def Q_law (Z : State) (p0 : Int32) (p1 : Int32) (p2 : Int32) (p3 : Int32) (cz : Int32) (ad : Addr) (kd : ClassId) (h0 : Heap) (n0 : Nat) (v : Option Value) (h : Heap) (L : List Loc) : Prop := v = some (.int (1 : Int32)) ∧ Fr n0 L
set_option maxRecDepth 65536 in
set_option maxHeartbeats 40000000 in
theorem rm_law (l : Launch) (Z : State) (a0 : Array Value) (hw : ∀ d ∈ tables_1, d.before a0 Z = true) (ws : List Jvm.Cond) (p0 : Int32) (p1 : Int32) (p2 : Int32) (p3 : Int32) (cz : Int32) (ad : Addr) (kd : ClassId) (h0 : Heap) (n0 : Nat) (O0 : Old Z n0 h0) (G0 : Sta Z Z.heap "java/lang/String" "COMPACT_STRINGS" "Z" (.int cz)) (G1 : Sta Z Z.heap "java/util/ArrayList" "DEFAULTCAPACITY_EMPTY_ELEMENTDATA" "[Ljava/lang/Object;" (.ref ad)) (G2 : Arv Z Z.heap ad kd (.object "java/lang/Object") (0 : Int32) [] .null) (G3 : Exa Z Z.heap ad "[Ljava/lang/Object;") (qz : ¬ (cz = (0 : Int32))) :
    MetFree l x (head1 (Jvm.Cond.code x code maxLocals ret :: ws) room_1) (fun a U => a = #[(.int p0), (.int p1), (.int p2), (.int p3)] ∧ Z.Warmed39 U.vm ∧ U.heap = h0) (fun _ _ _ _ _ => True) (fun _ U o U' => ∃ v L, o = .returned v ∧ Q_law Z p0 p1 p2 p3 cz ad kd h0 n0 v U'.heap L ∧ FrameEnd U o U' L room_1.cells room_1.slots) := by
  refine MetFree.of_bodySF (plainFor_of_name pn_0) hisR ?_
  intro p e s m args below meth c s₁ Bd hml0 hP hK
  have W := fun {d : Jvm.Cond} (i : Nat) (q : tables_1[i]? = some d) => hw d (List.mem_of_getElem? q)
  obtain ⟨rfl, hZ, hh⟩ := hP
  have hx := Bd.exec
  have hby := Bd.bytes
  have hml : c.maxLocals = 18 := hml0
  have hown : s.vm.findClass "com/example/homethread/homethread/cli/ScenarioReportExitStatusPinLaw" = some m.cls := findClass_of_methodNamed Bd.named
  have hnm := (name_of_methodNamed Bd.named Bd.method).1
  have X0 : Stand p l e room_1 s m #[(.int p0), (.int p1), (.int p2), (.int p3)] below meth c s₁ [] 0 0 := Stand.of_body Bd
  have e0 : s₁.heap = h0 := by rw [← hh, Bd.state]; rfl
  have N0 := Fr.nil n0
  have pre0 : ∀ t, Steps p.tables e below (s₁.setTop (mkF m 0 #[iv p0, iv p1, iv p2, iv p3, .unset, .unset, .unset, .unset, .unset, .unset, .unset, .unset, .unset, .unset, .unset, .unset, .unset, .unset] [])) t → Steps p.tables e below (s₁.setTop (entryFrame m #[(.int p0), (.int p1), (.int p2), (.int p3)] maxLocals)) t := fun t k => castTop (ef_39 m p0 p1 p2 p3) k
  have K0 : Keep h0 h0 [] := Keep.refl h0 []
  have pre2227 : ∀ t, Steps p.tables e below (s₁.setTop (mkF m 8 #[iv p0, iv p1, iv p2, iv p3, iv (p3 &&& (3 : Int32)), .unset, .unset, .unset, .unset, .unset, .unset, .unset, .unset, .unset, .unset, .unset, .unset, .unset] [(.int ((p3.toUInt32 >>> ((2 : Int32) &&& 31).toUInt32).toInt32))])) t → Steps p.tables e below (s₁.setTop (entryFrame m #[(.int p0), (.int p1), (.int p2), (.int p3)] maxLocals)) t := fun t kt => by
    refine pre0 _ ?_
    show Steps p.tables e below (s₁.setTop (mkF m 0 #[iv p0, iv p1, iv p2, iv p3, .unset, .unset, .unset, .unset, .unset, .unset, .unset, .unset, .unset, .unset, .unset, .unset, .unset, .unset] [])) _
    refine XS.iloadN X0.here hx rfl (hb hby at_0) rfl ?_
    refine XS.iconst X0.here hx rfl (hb hby at_1) ?_
    refine XS.iand X0.here hx rfl (hb hby at_2) rfl ?_
    refine XS.istore X0.here hx rfl (hb hby at_3) rfl (l' := #[iv p0, iv p1, iv p2, iv p3, iv (p3 &&& (3 : Int32)), .unset, .unset, .unset, .unset, .unset, .unset, .unset, .unset, .unset, .unset, .unset, .unset, .unset]) rfl ?_
    refine XS.iloadN X0.here hx rfl (hb hby at_5) rfl ?_
    refine XS.iconst X0.here hx rfl (hb hby at_6) ?_
    refine XS.iushr X0.here hx rfl (hb hby at_7) rfl ?_
    exact kt
  obtain ⟨ln, hln⟩ : ∃ z, z = ((p3.toUInt32 >>> ((2 : Int32) &&& 31).toUInt32).toInt32) := ⟨_, rfl⟩
  rw [← hln] at pre2227
  have pre2228 : ∀ t, Steps p.tables e below (s₁.setTop (mkF m 13 #[iv p0, iv p1, iv p2, iv p3, iv (p3 &&& (3 : Int32)), iv ln, .unset, .unset, .unset, .unset, .unset, .unset, .unset, .unset, .unset, .unset, .unset, .unset] [(.int ln), (.int p0)])) t → Steps p.tables e below (s₁.setTop (entryFrame m #[(.int p0), (.int p1), (.int p2), (.int p3)] maxLocals)) t := fun t kt => by
    refine pre2227 _ ?_
    show Steps p.tables e below (s₁.setTop (mkF m 8 #[iv p0, iv p1, iv p2, iv p3, iv (p3 &&& (3 : Int32)), .unset, .unset, .unset, .unset, .unset, .unset, .unset, .unset, .unset, .unset, .unset, .unset, .unset] [(.int ln)])) _
    refine XS.istore X0.here hx rfl (hb hby at_8) rfl (l' := #[iv p0, iv p1, iv p2, iv p3, iv (p3 &&& (3 : Int32)), iv ln, .unset, .unset, .unset, .unset, .unset, .unset, .unset, .unset, .unset, .unset, .unset, .unset]) rfl ?_
    refine XS.iloadN X0.here hx rfl (hb hby at_10) rfl ?_
    refine XS.iload X0.here hx rfl (hb hby at_11) rfl ?_
    exact kt
  obtain ⟨_, _, ⟨T2229, L2229, k2229, n2229⟩, -, X2229, ⟨Lc2229, hQ2229, l2229, y2229, z2229⟩, st2229⟩ := Jvm.LawKit.callS X0 hx (y := (⟨"com/example/homethread/homethread/cli/ScenarioReportExitStatusPinLaw", "exp", "(II)Ljava/lang/String;"⟩ : MethodName)) hown (mvT hZ (W 0 rfl)) (mvT hZ (W 1 rfl)) (mvT hZ (W 2 rfl)) (mvT hZ (W 3 rfl)) (by decide) (backOf (W := 0) (rm_exp l Z a0 hw [] p0 ln cz h0 n0 O0 G0 qz) hZ (W 3 rfl) (W 2 rfl) (by decide) (by decide)) (g := (mkF m 13 #[iv p0, iv p1, iv p2, iv p3, iv (p3 &&& (3 : Int32)), iv ln, .unset, .unset, .unset, .unset, .unset, .unset, .unset, .unset, .unset, .unset, .unset, .unset] [(.int ln), (.int p0)])) rfl (by rw [hml]; rfl) (argsL := [(.int p0), (.int ln)]) (rest := []) (lenOf pd_40 rfl) rfl (by show 2 * 0 + _ ≤ _; exact Nat.le_of_eq rfl) (hb hby at_13) (fun _ _ => ⟨rfl, e0, (by decide : 0 + 3 ≤ _), (by decide : 0 + 8 ≤ _)⟩)
  dsimp only [Pt.U, Pt.locs, Pt.cells, Pt.slots] at X2229 l2229 y2229 z2229 st2229 hQ2229
  subst l2229 y2229 z2229
  obtain ⟨r_2229, rfl, M2229, Kc2229, O2229, J2229_0, P2229_0⟩ := hQ2229
  obtain ⟨h2229, e2229⟩ : ∃ z, T2229.heap = z := ⟨_, rfl⟩
  rw [e2229] at Kc2229 O2229 J2229_0
  try rw [e2229] at P2229_0
  have N2229 := Fr.app N0 M2229
  have K2229 : Keep h0 h2229 [] := K0.trans Kc2229 (own_all0 )
  have pre2230 : ∀ t, Steps p.tables e below (T2229.setTop (mkF m 16 #[iv p0, iv p1, iv p2, iv p3, iv (p3 &&& (3 : Int32)), iv ln, .unset, .unset, .unset, .unset, .unset, .unset, .unset, .unset, .unset, .unset, .unset, .unset] [(.ref r_2229)])) t → Steps p.tables e below (s₁.setTop (entryFrame m #[(.int p0), (.int p1), (.int p2), (.int p3)] maxLocals)) t := fun t kt => pre2228 _ (st2229 _ kt)
  have sz_r_2229 : h0.size ≤ r_2229 := Nat.le_trans K0.1 P2229_0
  have ne_ad_r_2229 : ad ≠ r_2229 := Nat.ne_of_lt (Nat.lt_of_lt_of_le (G2.ext O0.2).lt P2229_0)
  have g_r_2229 : n0 ≤ r_2229 := Nat.le_trans (Nat.le_trans (Nat.le_of_eq O0.1.symm) O0.2.1) sz_r_2229
  have pre2231 : ∀ t, Steps p.tables e below (T2229.setTop (mkF m 21 #[iv p0, iv p1, iv p2, iv p3, iv (p3 &&& (3 : Int32)), iv ln, rv r_2229, .unset, .unset, .unset, .unset, .unset, .unset, .unset, .unset, .unset, .unset, .unset] [(.int ln), (.int p0)])) t → Steps p.tables e below (s₁.setTop (entryFrame m #[(.int p0), (.int p1), (.int p2), (.int p3)] maxLocals)) t := fun t kt => by
    refine pre2230 _ ?_
    show Steps p.tables e below (T2229.setTop (mkF m 16 #[iv p0, iv p1, iv p2, iv p3, iv (p3 &&& (3 : Int32)), iv ln, .unset, .unset, .unset, .unset, .unset, .unset, .unset, .unset, .unset, .unset, .unset, .unset] [(.ref r_2229)])) _
    refine XS.astore X2229.here hx rfl (hb hby at_16) rfl rfl (l' := #[iv p0, iv p1, iv p2, iv p3, iv (p3 &&& (3 : Int32)), iv ln, rv r_2229, .unset, .unset, .unset, .unset, .unset, .unset, .unset, .unset, .unset, .unset, .unset]) rfl ?_
    refine XS.iloadN X2229.here hx rfl (hb hby at_18) rfl ?_
    refine XS.iload X2229.here hx rfl (hb hby at_19) rfl ?_
    exact kt
  obtain ⟨_, _, ⟨T2232, L2232, k2232, n2232⟩, -, X2232, ⟨Lc2232, hQ2232, l2232, y2232, z2232⟩, st2232⟩ := Jvm.LawKit.callS X2229 hx (y := (⟨"com/example/homethread/homethread/cli/ScenarioReportExitStatusPinLaw", "obs", "(II)Ljava/lang/String;"⟩ : MethodName)) hown (mvT hZ (W 37 rfl)) (mvT hZ (W 38 rfl)) (mvT hZ (W 2 rfl)) (mvT hZ (W 39 rfl)) (by decide) (backOf (W := 0) (rm_obs l Z a0 hw [] p0 ln cz h2229 n0 O2229 G0 qz) hZ (W 39 rfl) (W 2 rfl) (by decide) (by decide)) (g := (mkF m 21 #[iv p0, iv p1, iv p2, iv p3, iv (p3 &&& (3 : Int32)), iv ln, rv r_2229, .unset, .unset, .unset, .unset, .unset, .unset, .unset, .unset, .unset, .unset, .unset] [(.int ln), (.int p0)])) rfl (by rw [hml]; rfl) (argsL := [(.int p0), (.int ln)]) (rest := []) (lenOf pd_40 rfl) rfl (by show 2 * 0 + _ ≤ _; exact Nat.le_of_eq rfl) (hb hby at_21) (fun _ _ => ⟨rfl, e2229, (by decide : 3 + 3 ≤ _), (by decide : 8 + 8 ≤ _)⟩)
  dsimp only [Pt.U, Pt.locs, Pt.cells, Pt.slots] at X2232 l2232 y2232 z2232 st2232 hQ2232
  subst l2232 y2232 z2232
  obtain ⟨r_2232, rfl, M2232, Kc2232, O2232, J2232_0, P2232_0⟩ := hQ2232
  obtain ⟨h2232, e2232⟩ : ∃ z, T2232.heap = z := ⟨_, rfl⟩
  rw [e2232] at Kc2232 O2232 J2232_0
  try rw [e2232] at P2232_0
  have N2232 := Fr.app N2229 M2232
  have K2232 : Keep h0 h2232 [] := K2229.trans Kc2232 (own_all0 )
  have pre2233 : ∀ t, Steps p.tables e below (T2232.setTop (mkF m 24 #[iv p0, iv p1, iv p2, iv p3, iv (p3 &&& (3 : Int32)), iv ln, rv r_2229, .unset, .unset, .unset, .unset, .unset, .unset, .unset, .unset, .unset, .unset, .unset] [(.ref r_2232)])) t → Steps p.tables e below (s₁.setTop (entryFrame m #[(.int p0), (.int p1), (.int p2), (.int p3)] maxLocals)) t := fun t kt => pre2231 _ (st2232 _ kt)
  have F2234 := own_str_ext J2229_0 (own_ext_keep0 Kc2232)
  have sz_r_2232 : h0.size ≤ r_2232 := Nat.le_trans K2229.1 P2232_0
  have ne_ad_r_2232 : ad ≠ r_2232 := Nat.ne_of_lt (Nat.lt_of_lt_of_le (G2.ext O2229.2).lt P2232_0)
  have ne_r_2229_r_2232 : r_2229 ≠ r_2232 := Nat.ne_of_lt (Nat.lt_of_lt_of_le (own_str_lt J2229_0) P2232_0)
  have g_r_2232 : n0 ≤ r_2232 := Nat.le_trans (Nat.le_trans (Nat.le_of_eq O0.1.symm) O0.2.1) sz_r_2232
  have pre2235 : ∀ t, Steps p.tables e below (T2232.setTop (mkF m 29 #[iv p0, iv p1, iv p2, iv p3, iv (p3 &&& (3 : Int32)), iv ln, rv r_2229, rv r_2232, .unset, .unset, .unset, .unset, .unset, .unset, .unset, .unset, .unset, .unset] [(.int ln), (.int p0)])) t → Steps p.tables e below (s₁.setTop (entryFrame m #[(.int p0), (.int p1), (.int p2), (.int p3)] maxLocals)) t := fun t kt => by
    refine pre2233 _ ?_
    show Steps p.tables e below (T2232.setTop (mkF m 24 #[iv p0, iv p1, iv p2, iv p3, iv (p3 &&& (3 : Int32)), iv ln, rv r_2229, .unset, .unset, .unset, .unset, .unset, .unset, .unset, .unset, .unset, .unset, .unset] [(.ref r_2232)])) _
    refine XS.astore X2232.here hx rfl (hb hby at_24) rfl rfl (l' := #[iv p0, iv p1, iv p2, iv p3, iv (p3 &&& (3 : Int32)), iv ln, rv r_2229, rv r_2232, .unset, .unset, .unset, .unset, .unset, .unset, .unset, .unset, .unset, .unset]) rfl ?_
    refine XS.iloadN X2232.here hx rfl (hb hby at_26) rfl ?_
    refine XS.iload X2232.here hx rfl (hb hby at_27) rfl ?_
    exact kt
  obtain ⟨_, _, ⟨T2236, L2236, k2236, n2236⟩, -, X2236, ⟨Lc2236, hQ2236, l2236, y2236, z2236⟩, st2236⟩ := Jvm.LawKit.callS X2232 hx (y := (⟨"com/example/homethread/homethread/cli/ScenarioReportExitStatusPinLaw", "same", "(II)Z"⟩ : MethodName)) hown (mvT hZ (W 46 rfl)) (mvT hZ (W 47 rfl)) (mvT hZ (W 2 rfl)) (mvT hZ (W 48 rfl)) (by decide) (backOf (W := 0) (rm_same l Z a0 hw [] p0 ln h2232 n0 O2232) hZ (W 48 rfl) (W 2 rfl) (by decide) (by decide)) (g := (mkF m 29 #[iv p0, iv p1, iv p2, iv p3, iv (p3 &&& (3 : Int32)), iv ln, rv r_2229, rv r_2232, .unset, .unset, .unset, .unset, .unset, .unset, .unset, .unset, .unset, .unset] [(.int ln), (.int p0)])) rfl (by rw [hml]; rfl) (argsL := [(.int p0), (.int ln)]) (rest := []) (lenOf pd_41 rfl) rfl (by show 2 * 0 + _ ≤ _; exact Nat.le_of_eq rfl) (hb hby at_29) (fun _ _ => ⟨rfl, e2232, (by decide : 6 + 0 ≤ _), (by decide : 16 + 0 ≤ _)⟩)
  dsimp only [Pt.U, Pt.locs, Pt.cells, Pt.slots] at X2236 l2236 y2236 z2236 st2236 hQ2236
  subst l2236 y2236 z2236
  obtain ⟨rfl, M2236, e2236⟩ := hQ2236
  have N2236 := Fr.app N2232 M2236
  have pre2237 : ∀ t, Steps p.tables e below (T2236.setTop (mkF m 32 #[iv p0, iv p1, iv p2, iv p3, iv (p3 &&& (3 : Int32)), iv ln, rv r_2229, rv r_2232, .unset, .unset, .unset, .unset, .unset, .unset, .unset, .unset, .unset, .unset] [(.int (own_same p0 ln))])) t → Steps p.tables e below (s₁.setTop (entryFrame m #[(.int p0), (.int p1), (.int p2), (.int p3)] maxLocals)) t := fun t kt => pre2235 _ (st2236 _ kt)
  obtain ⟨s0, hs0⟩ : ∃ z, z = (own_same p0 ln) := ⟨_, rfl⟩
  rw [← hs0] at pre2237
  have pre2238 : ∀ t, Steps p.tables e below (T2236.setTop (mkF m 39 #[iv p0, iv p1, iv p2, iv p3, iv (p3 &&& (3 : Int32)), iv ln, rv r_2229, rv r_2232, iv s0, .unset, .unset, .unset, .unset, .unset, .unset, .unset, .unset, .unset] [(.int ((ln.toUInt32 >>> ((2 : Int32) &&& 31).toUInt32).toInt32)), (.int p1)])) t → Steps p.tables e below (s₁.setTop (entryFrame m #[(.int p0), (.int p1), (.int p2), (.int p3)] maxLocals)) t := fun t kt => by
    refine pre2237 _ ?_
    show Steps p.tables e below (T2236.setTop (mkF m 32 #[iv p0, iv p1, iv p2, iv p3, iv (p3 &&& (3 : Int32)), iv ln, rv r_2229, rv r_2232, .unset, .unset, .unset, .unset, .unset, .unset, .unset, .unset, .unset, .unset] [(.int s0)])) _
    refine XS.istore X2236.here hx rfl (hb hby at_32) rfl (l' := #[iv p0, iv p1, iv p2, iv p3, iv (p3 &&& (3 : Int32)), iv ln, rv r_2229, rv r_2232, iv s0, .unset, .unset, .unset, .unset, .unset, .unset, .unset, .unset, .unset]) rfl ?_
    refine XS.iloadN X2236.here hx rfl (hb hby at_34) rfl ?_
    refine XS.iload X2236.here hx rfl (hb hby at_35) rfl ?_
    refine XS.iconst X2236.here hx rfl (hb hby at_37) ?_
    refine XS.iushr X2236.here hx rfl (hb hby at_38) rfl ?_
    exact kt
  obtain ⟨l2, hl2⟩ : ∃ z, z = ((ln.toUInt32 >>> ((2 : Int32) &&& 31).toUInt32).toInt32) := ⟨_, rfl⟩
  rw [← hl2] at pre2238
  obtain ⟨_, _, ⟨T2239, L2239, k2239, n2239⟩, -, X2239, ⟨Lc2239, hQ2239, l2239, y2239, z2239⟩, st2239⟩ := Jvm.LawKit.callS X2236 hx (y := (⟨"com/example/homethread/homethread/cli/ScenarioReportExitStatusPinLaw", "exp", "(II)Ljava/lang/String;"⟩ : MethodName)) hown (mvT hZ (W 0 rfl)) (mvT hZ (W 1 rfl)) (mvT hZ (W 2 rfl)) (mvT hZ (W 3 rfl)) (by decide) (backOf (W := 0) (rm_exp l Z a0 hw [] p1 l2 cz h2232 n0 O2232 G0 qz) hZ (W 3 rfl) (W 2 rfl) (by decide) (by decide)) (g := (mkF m 39 #[iv p0, iv p1, iv p2, iv p3, iv (p3 &&& (3 : Int32)), iv ln, rv r_2229, rv r_2232, iv s0, .unset, .unset, .unset, .unset, .unset, .unset, .unset, .unset, .unset] [(.int l2), (.int p1)])) rfl (by rw [hml]; rfl) (argsL := [(.int p1), (.int l2)]) (rest := []) (lenOf pd_40 rfl) rfl (by show 2 * 0 + _ ≤ _; exact Nat.le_of_eq rfl) (hb hby at_39) (fun _ _ => ⟨rfl, e2236, (by decide : 6 + 3 ≤ _), (by decide : 16 + 8 ≤ _)⟩)
  dsimp only [Pt.U, Pt.locs, Pt.cells, Pt.slots] at X2239 l2239 y2239 z2239 st2239 hQ2239
  subst l2239 y2239 z2239
  obtain ⟨r_2239, rfl, M2239, Kc2239, O2239, J2239_0, P2239_0⟩ := hQ2239
  obtain ⟨h2239, e2239⟩ : ∃ z, T2239.heap = z := ⟨_, rfl⟩
  rw [e2239] at Kc2239 O2239 J2239_0
  try rw [e2239] at P2239_0
  have N2239 := Fr.app N2236 M2239
  have K2239 : Keep h0 h2239 [] := K2232.trans Kc2239 (own_all0 )
  have pre2240 : ∀ t, Steps p.tables e below (T2239.setTop (mkF m 42 #[iv p0, iv p1, iv p2, iv p3, iv (p3 &&& (3 : Int32)), iv ln, rv r_2229, rv r_2232, iv s0, .unset, .unset, .unset, .unset, .unset, .unset, .unset, .unset, .unset] [(.ref r_2239)])) t → Steps p.tables e below (s₁.setTop (entryFrame m #[(.int p0), (.int p1), (.int p2), (.int p3)] maxLocals)) t := fun t kt => pre2238 _ (st2239 _ kt)
  have F2241 := own_str_ext F2234 (own_ext_keep0 Kc2239)
  have F2242 := own_str_ext J2232_0 (own_ext_keep0 Kc2239)
  have sz_r_2239 : h0.size ≤ r_2239 := Nat.le_trans K2232.1 P2239_0
  have ne_ad_r_2239 : ad ≠ r_2239 := Nat.ne_of_lt (Nat.lt_of_lt_of_le (G2.ext O2232.2).lt P2239_0)
  have ne_r_2229_r_2239 : r_2229 ≠ r_2239 := Nat.ne_of_lt (Nat.lt_of_lt_of_le (own_str_lt F2234) P2239_0)
  have ne_r_2232_r_2239 : r_2232 ≠ r_2239 := Nat.ne_of_lt (Nat.lt_of_lt_of_le (own_str_lt J2232_0) P2239_0)
  have g_r_2239 : n0 ≤ r_2239 := Nat.le_trans (Nat.le_trans (Nat.le_of_eq O0.1.symm) O0.2.1) sz_r_2239
  have pre2243 : ∀ t, Steps p.tables e below (T2239.setTop (mkF m 49 #[iv p0, iv p1, iv p2, iv p3, iv (p3 &&& (3 : Int32)), iv ln, rv r_2229, rv r_2232, iv s0, rv r_2239, .unset, .unset, .unset, .unset, .unset, .unset, .unset, .unset] [(.int ((ln.toUInt32 >>> ((2 : Int32) &&& 31).toUInt32).toInt32)), (.int p1)])) t → Steps p.tables e below (s₁.setTop (entryFrame m #[(.int p0), (.int p1), (.int p2), (.int p3)] maxLocals)) t := fun t kt => by
    refine pre2240 _ ?_
    show Steps p.tables e below (T2239.setTop (mkF m 42 #[iv p0, iv p1, iv p2, iv p3, iv (p3 &&& (3 : Int32)), iv ln, rv r_2229, rv r_2232, iv s0, .unset, .unset, .unset, .unset, .unset, .unset, .unset, .unset, .unset] [(.ref r_2239)])) _
    refine XS.astore X2239.here hx rfl (hb hby at_42) rfl rfl (l' := #[iv p0, iv p1, iv p2, iv p3, iv (p3 &&& (3 : Int32)), iv ln, rv r_2229, rv r_2232, iv s0, rv r_2239, .unset, .unset, .unset, .unset, .unset, .unset, .unset, .unset]) rfl ?_
    refine XS.iloadN X2239.here hx rfl (hb hby at_44) rfl ?_
    refine XS.iload X2239.here hx rfl (hb hby at_45) rfl ?_
    refine XS.iconst X2239.here hx rfl (hb hby at_47) ?_
    refine XS.iushr X2239.here hx rfl (hb hby at_48) rfl ?_
    exact kt
  rw [← hl2] at pre2243
  obtain ⟨_, _, ⟨T2244, L2244, k2244, n2244⟩, -, X2244, ⟨Lc2244, hQ2244, l2244, y2244, z2244⟩, st2244⟩ := Jvm.LawKit.callS X2239 hx (y := (⟨"com/example/homethread/homethread/cli/ScenarioReportExitStatusPinLaw", "obs", "(II)Ljava/lang/String;"⟩ : MethodName)) hown (mvT hZ (W 37 rfl)) (mvT hZ (W 38 rfl)) (mvT hZ (W 2 rfl)) (mvT hZ (W 39 rfl)) (by decide) (backOf (W := 0) (rm_obs l Z a0 hw [] p1 l2 cz h2239 n0 O2239 G0 qz) hZ (W 39 rfl) (W 2 rfl) (by decide) (by decide)) (g := (mkF m 49 #[iv p0, iv p1, iv p2, iv p3, iv (p3 &&& (3 : Int32)), iv ln, rv r_2229, rv r_2232, iv s0, rv r_2239, .unset, .unset, .unset, .unset, .unset, .unset, .unset, .unset] [(.int l2), (.int p1)])) rfl (by rw [hml]; rfl) (argsL := [(.int p1), (.int l2)]) (rest := []) (lenOf pd_40 rfl) rfl (by show 2 * 0 + _ ≤ _; exact Nat.le_of_eq rfl) (hb hby at_49) (fun _ _ => ⟨rfl, e2239, (by decide : 9 + 3 ≤ _), (by decide : 24 + 8 ≤ _)⟩)
  dsimp only [Pt.U, Pt.locs, Pt.cells, Pt.slots] at X2244 l2244 y2244 z2244 st2244 hQ2244
  subst l2244 y2244 z2244
  obtain ⟨r_2244, rfl, M2244, Kc2244, O2244, J2244_0, P2244_0⟩ := hQ2244
  obtain ⟨h2244, e2244⟩ : ∃ z, T2244.heap = z := ⟨_, rfl⟩
  rw [e2244] at Kc2244 O2244 J2244_0
  try rw [e2244] at P2244_0
  have N2244 := Fr.app N2239 M2244
  have K2244 : Keep h0 h2244 [] := K2239.trans Kc2244 (own_all0 )
  have pre2245 : ∀ t, Steps p.tables e below (T2244.setTop (mkF m 52 #[iv p0, iv p1, iv p2, iv p3, iv (p3 &&& (3 : Int32)), iv ln, rv r_2229, rv r_2232, iv s0, rv r_2239, .unset, .unset, .unset, .unset, .unset, .unset, .unset, .unset] [(.ref r_2244)])) t → Steps p.tables e below (s₁.setTop (entryFrame m #[(.int p0), (.int p1), (.int p2), (.int p3)] maxLocals)) t := fun t kt => pre2243 _ (st2244 _ kt)
  have F2246 := own_str_ext F2241 (own_ext_keep0 Kc2244)
  have F2247 := own_str_ext F2242 (own_ext_keep0 Kc2244)
  have F2248 := own_str_ext J2239_0 (own_ext_keep0 Kc2244)
  have sz_r_2244 : h0.size ≤ r_2244 := Nat.le_trans K2239.1 P2244_0
  have ne_ad_r_2244 : ad ≠ r_2244 := Nat.ne_of_lt (Nat.lt_of_lt_of_le (G2.ext O2239.2).lt P2244_0)
  have ne_r_2229_r_2244 : r_2229 ≠ r_2244 := Nat.ne_of_lt (Nat.lt_of_lt_of_le (own_str_lt F2241) P2244_0)
  have ne_r_2232_r_2244 : r_2232 ≠ r_2244 := Nat.ne_of_lt (Nat.lt_of_lt_of_le (own_str_lt F2242) P2244_0)
  have ne_r_2239_r_2244 : r_2239 ≠ r_2244 := Nat.ne_of_lt (Nat.lt_of_lt_of_le (own_str_lt J2239_0) P2244_0)
  have g_r_2244 : n0 ≤ r_2244 := Nat.le_trans (Nat.le_trans (Nat.le_of_eq O0.1.symm) O0.2.1) sz_r_2244
  have pre2249 : ∀ t, Steps p.tables e below (T2244.setTop (mkF m 59 #[iv p0, iv p1, iv p2, iv p3, iv (p3 &&& (3 : Int32)), iv ln, rv r_2229, rv r_2232, iv s0, rv r_2239, rv r_2244, .unset, .unset, .unset, .unset, .unset, .unset, .unset] [(.int ((ln.toUInt32 >>> ((2 : Int32) &&& 31).toUInt32).toInt32)), (.int p1)])) t → Steps p.tables e below (s₁.setTop (entryFrame m #[(.int p0), (.int p1), (.int p2), (.int p3)] maxLocals)) t := fun t kt => by
    refine pre2245 _ ?_
    show Steps p.tables e below (T2244.setTop (mkF m 52 #[iv p0, iv p1, iv p2, iv p3, iv (p3 &&& (3 : Int32)), iv ln, rv r_2229, rv r_2232, iv s0, rv r_2239, .unset, .unset, .unset, .unset, .unset, .unset, .unset, .unset] [(.ref r_2244)])) _
    refine XS.astore X2244.here hx rfl (hb hby at_52) rfl rfl (l' := #[iv p0, iv p1, iv p2, iv p3, iv (p3 &&& (3 : Int32)), iv ln, rv r_2229, rv r_2232, iv s0, rv r_2239, rv r_2244, .unset, .unset, .unset, .unset, .unset, .unset, .unset]) rfl ?_
    refine XS.iloadN X2244.here hx rfl (hb hby at_54) rfl ?_
    refine XS.iload X2244.here hx rfl (hb hby at_55) rfl ?_
    refine XS.iconst X2244.here hx rfl (hb hby at_57) ?_
    refine XS.iushr X2244.here hx rfl (hb hby at_58) rfl ?_
    exact kt
  rw [← hl2] at pre2249
  obtain ⟨_, _, ⟨T2250, L2250, k2250, n2250⟩, -, X2250, ⟨Lc2250, hQ2250, l2250, y2250, z2250⟩, st2250⟩ := Jvm.LawKit.callS X2244 hx (y := (⟨"com/example/homethread/homethread/cli/ScenarioReportExitStatusPinLaw", "same", "(II)Z"⟩ : MethodName)) hown (mvT hZ (W 46 rfl)) (mvT hZ (W 47 rfl)) (mvT hZ (W 2 rfl)) (mvT hZ (W 48 rfl)) (by decide) (backOf (W := 0) (rm_same l Z a0 hw [] p1 l2 h2244 n0 O2244) hZ (W 48 rfl) (W 2 rfl) (by decide) (by decide)) (g := (mkF m 59 #[iv p0, iv p1, iv p2, iv p3, iv (p3 &&& (3 : Int32)), iv ln, rv r_2229, rv r_2232, iv s0, rv r_2239, rv r_2244, .unset, .unset, .unset, .unset, .unset, .unset, .unset] [(.int l2), (.int p1)])) rfl (by rw [hml]; rfl) (argsL := [(.int p1), (.int l2)]) (rest := []) (lenOf pd_41 rfl) rfl (by show 2 * 0 + _ ≤ _; exact Nat.le_of_eq rfl) (hb hby at_59) (fun _ _ => ⟨rfl, e2244, (by decide : 12 + 0 ≤ _), (by decide : 32 + 0 ≤ _)⟩)
  dsimp only [Pt.U, Pt.locs, Pt.cells, Pt.slots] at X2250 l2250 y2250 z2250 st2250 hQ2250
  subst l2250 y2250 z2250
  obtain ⟨rfl, M2250, e2250⟩ := hQ2250
  have N2250 := Fr.app N2244 M2250
  have pre2251 : ∀ t, Steps p.tables e below (T2250.setTop (mkF m 62 #[iv p0, iv p1, iv p2, iv p3, iv (p3 &&& (3 : Int32)), iv ln, rv r_2229, rv r_2232, iv s0, rv r_2239, rv r_2244, .unset, .unset, .unset, .unset, .unset, .unset, .unset] [(.int (own_same p1 l2))])) t → Steps p.tables e below (s₁.setTop (entryFrame m #[(.int p0), (.int p1), (.int p2), (.int p3)] maxLocals)) t := fun t kt => pre2249 _ (st2250 _ kt)
  obtain ⟨s1, hs1⟩ : ∃ z, z = (own_same p1 l2) := ⟨_, rfl⟩
  rw [← hs1] at pre2251
  have pre2252 : ∀ t, Steps p.tables e below (T2250.setTop (mkF m 69 #[iv p0, iv p1, iv p2, iv p3, iv (p3 &&& (3 : Int32)), iv ln, rv r_2229, rv r_2232, iv s0, rv r_2239, rv r_2244, iv s1, .unset, .unset, .unset, .unset, .unset, .unset] [(.int ((ln.toUInt32 >>> ((4 : Int32) &&& 31).toUInt32).toInt32)), (.int p2)])) t → Steps p.tables e below (s₁.setTop (entryFrame m #[(.int p0), (.int p1), (.int p2), (.int p3)] maxLocals)) t := fun t kt => by
    refine pre2251 _ ?_
    show Steps p.tables e below (T2250.setTop (mkF m 62 #[iv p0, iv p1, iv p2, iv p3, iv (p3 &&& (3 : Int32)), iv ln, rv r_2229, rv r_2232, iv s0, rv r_2239, rv r_2244, .unset, .unset, .unset, .unset, .unset, .unset, .unset] [(.int s1)])) _
    refine XS.istore X2250.here hx rfl (hb hby at_62) rfl (l' := #[iv p0, iv p1, iv p2, iv p3, iv (p3 &&& (3 : Int32)), iv ln, rv r_2229, rv r_2232, iv s0, rv r_2239, rv r_2244, iv s1, .unset, .unset, .unset, .unset, .unset, .unset]) rfl ?_
    refine XS.iloadN X2250.here hx rfl (hb hby at_64) rfl ?_
    refine XS.iload X2250.here hx rfl (hb hby at_65) rfl ?_
    refine XS.iconst X2250.here hx rfl (hb hby at_67) ?_
    refine XS.iushr X2250.here hx rfl (hb hby at_68) rfl ?_
    exact kt
  obtain ⟨l4, hl4⟩ : ∃ z, z = ((ln.toUInt32 >>> ((4 : Int32) &&& 31).toUInt32).toInt32) := ⟨_, rfl⟩
  rw [← hl4] at pre2252
  obtain ⟨_, _, ⟨T2253, L2253, k2253, n2253⟩, -, X2253, ⟨Lc2253, hQ2253, l2253, y2253, z2253⟩, st2253⟩ := Jvm.LawKit.callS X2250 hx (y := (⟨"com/example/homethread/homethread/cli/ScenarioReportExitStatusPinLaw", "exp", "(II)Ljava/lang/String;"⟩ : MethodName)) hown (mvT hZ (W 0 rfl)) (mvT hZ (W 1 rfl)) (mvT hZ (W 2 rfl)) (mvT hZ (W 3 rfl)) (by decide) (backOf (W := 0) (rm_exp l Z a0 hw [] p2 l4 cz h2244 n0 O2244 G0 qz) hZ (W 3 rfl) (W 2 rfl) (by decide) (by decide)) (g := (mkF m 69 #[iv p0, iv p1, iv p2, iv p3, iv (p3 &&& (3 : Int32)), iv ln, rv r_2229, rv r_2232, iv s0, rv r_2239, rv r_2244, iv s1, .unset, .unset, .unset, .unset, .unset, .unset] [(.int l4), (.int p2)])) rfl (by rw [hml]; rfl) (argsL := [(.int p2), (.int l4)]) (rest := []) (lenOf pd_40 rfl) rfl (by show 2 * 0 + _ ≤ _; exact Nat.le_of_eq rfl) (hb hby at_69) (fun _ _ => ⟨rfl, e2250, (by decide : 12 + 3 ≤ _), (by decide : 32 + 8 ≤ _)⟩)
  dsimp only [Pt.U, Pt.locs, Pt.cells, Pt.slots] at X2253 l2253 y2253 z2253 st2253 hQ2253
  subst l2253 y2253 z2253
  obtain ⟨r_2253, rfl, M2253, Kc2253, O2253, J2253_0, P2253_0⟩ := hQ2253
  obtain ⟨h2253, e2253⟩ : ∃ z, T2253.heap = z := ⟨_, rfl⟩
  rw [e2253] at Kc2253 O2253 J2253_0
  try rw [e2253] at P2253_0
  have N2253 := Fr.app N2250 M2253
  have K2253 : Keep h0 h2253 [] := K2244.trans Kc2253 (own_all0 )
  have pre2254 : ∀ t, Steps p.tables e below (T2253.setTop (mkF m 72 #[iv p0, iv p1, iv p2, iv p3, iv (p3 &&& (3 : Int32)), iv ln, rv r_2229, rv r_2232, iv s0, rv r_2239, rv r_2244, iv s1, .unset, .unset, .unset, .unset, .unset, .unset] [(.ref r_2253)])) t → Steps p.tables e below (s₁.setTop (entryFrame m #[(.int p0), (.int p1), (.int p2), (.int p3)] maxLocals)) t := fun t kt => pre2252 _ (st2253 _ kt)
  have F2255 := own_str_ext F2246 (own_ext_keep0 Kc2253)
  have F2256 := own_str_ext F2247 (own_ext_keep0 Kc2253)
  have F2257 := own_str_ext F2248 (own_ext_keep0 Kc2253)
  have F2258 := own_str_ext J2244_0 (own_ext_keep0 Kc2253)
  have sz_r_2253 : h0.size ≤ r_2253 := Nat.le_trans K2244.1 P2253_0
  have ne_ad_r_2253 : ad ≠ r_2253 := Nat.ne_of_lt (Nat.lt_of_lt_of_le (G2.ext O2244.2).lt P2253_0)
  have ne_r_2229_r_2253 : r_2229 ≠ r_2253 := Nat.ne_of_lt (Nat.lt_of_lt_of_le (own_str_lt F2246) P2253_0)
  have ne_r_2232_r_2253 : r_2232 ≠ r_2253 := Nat.ne_of_lt (Nat.lt_of_lt_of_le (own_str_lt F2247) P2253_0)
  have ne_r_2239_r_2253 : r_2239 ≠ r_2253 := Nat.ne_of_lt (Nat.lt_of_lt_of_le (own_str_lt F2248) P2253_0)
  have ne_r_2244_r_2253 : r_2244 ≠ r_2253 := Nat.ne_of_lt (Nat.lt_of_lt_of_le (own_str_lt J2244_0) P2253_0)
  have g_r_2253 : n0 ≤ r_2253 := Nat.le_trans (Nat.le_trans (Nat.le_of_eq O0.1.symm) O0.2.1) sz_r_2253
  have pre2259 : ∀ t, Steps p.tables e below (T2253.setTop (mkF m 79 #[iv p0, iv p1, iv p2, iv p3, iv (p3 &&& (3 : Int32)), iv ln, rv r_2229, rv r_2232, iv s0, rv r_2239, rv r_2244, iv s1, rv r_2253, .unset, .unset, .unset, .unset, .unset] [(.int ((ln.toUInt32 >>> ((4 : Int32) &&& 31).toUInt32).toInt32)), (.int p2)])) t → Steps p.tables e below (s₁.setTop (entryFrame m #[(.int p0), (.int p1), (.int p2), (.int p3)] maxLocals)) t := fun t kt => by
    refine pre2254 _ ?_
    show Steps p.tables e below (T2253.setTop (mkF m 72 #[iv p0, iv p1, iv p2, iv p3, iv (p3 &&& (3 : Int32)), iv ln, rv r_2229, rv r_2232, iv s0, rv r_2239, rv r_2244, iv s1, .unset, .unset, .unset, .unset, .unset, .unset] [(.ref r_2253)])) _
    refine XS.astore X2253.here hx rfl (hb hby at_72) rfl rfl (l' := #[iv p0, iv p1, iv p2, iv p3, iv (p3 &&& (3 : Int32)), iv ln, rv r_2229, rv r_2232, iv s0, rv r_2239, rv r_2244, iv s1, rv r_2253, .unset, .unset, .unset, .unset, .unset]) rfl ?_
    refine XS.iloadN X2253.here hx rfl (hb hby at_74) rfl ?_
    refine XS.iload X2253.here hx rfl (hb hby at_75) rfl ?_
    refine XS.iconst X2253.here hx rfl (hb hby at_77) ?_
    refine XS.iushr X2253.here hx rfl (hb hby at_78) rfl ?_
    exact kt
  rw [← hl4] at pre2259
  obtain ⟨_, _, ⟨T2260, L2260, k2260, n2260⟩, -, X2260, ⟨Lc2260, hQ2260, l2260, y2260, z2260⟩, st2260⟩ := Jvm.LawKit.callS X2253 hx (y := (⟨"com/example/homethread/homethread/cli/ScenarioReportExitStatusPinLaw", "obs", "(II)Ljava/lang/String;"⟩ : MethodName)) hown (mvT hZ (W 37 rfl)) (mvT hZ (W 38 rfl)) (mvT hZ (W 2 rfl)) (mvT hZ (W 39 rfl)) (by decide) (backOf (W := 0) (rm_obs l Z a0 hw [] p2 l4 cz h2253 n0 O2253 G0 qz) hZ (W 39 rfl) (W 2 rfl) (by decide) (by decide)) (g := (mkF m 79 #[iv p0, iv p1, iv p2, iv p3, iv (p3 &&& (3 : Int32)), iv ln, rv r_2229, rv r_2232, iv s0, rv r_2239, rv r_2244, iv s1, rv r_2253, .unset, .unset, .unset, .unset, .unset] [(.int l4), (.int p2)])) rfl (by rw [hml]; rfl) (argsL := [(.int p2), (.int l4)]) (rest := []) (lenOf pd_40 rfl) rfl (by show 2 * 0 + _ ≤ _; exact Nat.le_of_eq rfl) (hb hby at_79) (fun _ _ => ⟨rfl, e2253, (by decide : 15 + 3 ≤ _), (by decide : 40 + 8 ≤ _)⟩)
  dsimp only [Pt.U, Pt.locs, Pt.cells, Pt.slots] at X2260 l2260 y2260 z2260 st2260 hQ2260
  subst l2260 y2260 z2260
  obtain ⟨r_2260, rfl, M2260, Kc2260, O2260, J2260_0, P2260_0⟩ := hQ2260
  obtain ⟨h2260, e2260⟩ : ∃ z, T2260.heap = z := ⟨_, rfl⟩
  rw [e2260] at Kc2260 O2260 J2260_0
  try rw [e2260] at P2260_0
  have N2260 := Fr.app N2253 M2260
  have K2260 : Keep h0 h2260 [] := K2253.trans Kc2260 (own_all0 )
  have pre2261 : ∀ t, Steps p.tables e below (T2260.setTop (mkF m 82 #[iv p0, iv p1, iv p2, iv p3, iv (p3 &&& (3 : Int32)), iv ln, rv r_2229, rv r_2232, iv s0, rv r_2239, rv r_2244, iv s1, rv r_2253, .unset, .unset, .unset, .unset, .unset] [(.ref r_2260)])) t → Steps p.tables e below (s₁.setTop (entryFrame m #[(.int p0), (.int p1), (.int p2), (.int p3)] maxLocals)) t := fun t kt => pre2259 _ (st2260 _ kt)
  have F2262 := own_str_ext F2255 (own_ext_keep0 Kc2260)
  have F2263 := own_str_ext F2256 (own_ext_keep0 Kc2260)
  have F2264 := own_str_ext F2257 (own_ext_keep0 Kc2260)
  have F2265 := own_str_ext F2258 (own_ext_keep0 Kc2260)
  have F2266 := own_str_ext J2253_0 (own_ext_keep0 Kc2260)
  have sz_r_2260 : h0.size ≤ r_2260 := Nat.le_trans K2253.1 P2260_0
  have ne_ad_r_2260 : ad ≠ r_2260 := Nat.ne_of_lt (Nat.lt_of_lt_of_le (G2.ext O2253.2).lt P2260_0)
  have ne_r_2229_r_2260 : r_2229 ≠ r_2260 := Nat.ne_of_lt (Nat.lt_of_lt_of_le (own_str_lt F2255) P2260_0)
  have ne_r_2232_r_2260 : r_2232 ≠ r_2260 := Nat.ne_of_lt (Nat.lt_of_lt_of_le (own_str_lt F2256) P2260_0)
  have ne_r_2239_r_2260 : r_2239 ≠ r_2260 := Nat.ne_of_lt (Nat.lt_of_lt_of_le (own_str_lt F2257) P2260_0)
  have ne_r_2244_r_2260 : r_2244 ≠ r_2260 := Nat.ne_of_lt (Nat.lt_of_lt_of_le (own_str_lt F2258) P2260_0)
  have ne_r_2253_r_2260 : r_2253 ≠ r_2260 := Nat.ne_of_lt (Nat.lt_of_lt_of_le (own_str_lt J2253_0) P2260_0)
  have g_r_2260 : n0 ≤ r_2260 := Nat.le_trans (Nat.le_trans (Nat.le_of_eq O0.1.symm) O0.2.1) sz_r_2260
  have pre2267 : ∀ t, Steps p.tables e below (T2260.setTop (mkF m 89 #[iv p0, iv p1, iv p2, iv p3, iv (p3 &&& (3 : Int32)), iv ln, rv r_2229, rv r_2232, iv s0, rv r_2239, rv r_2244, iv s1, rv r_2253, rv r_2260, .unset, .unset, .unset, .unset] [(.int ((ln.toUInt32 >>> ((4 : Int32) &&& 31).toUInt32).toInt32)), (.int p2)])) t → Steps p.tables e below (s₁.setTop (entryFrame m #[(.int p0), (.int p1), (.int p2), (.int p3)] maxLocals)) t := fun t kt => by
    refine pre2261 _ ?_
    show Steps p.tables e below (T2260.setTop (mkF m 82 #[iv p0, iv p1, iv p2, iv p3, iv (p3 &&& (3 : Int32)), iv ln, rv r_2229, rv r_2232, iv s0, rv r_2239, rv r_2244, iv s1, rv r_2253, .unset, .unset, .unset, .unset, .unset] [(.ref r_2260)])) _
    refine XS.astore X2260.here hx rfl (hb hby at_82) rfl rfl (l' := #[iv p0, iv p1, iv p2, iv p3, iv (p3 &&& (3 : Int32)), iv ln, rv r_2229, rv r_2232, iv s0, rv r_2239, rv r_2244, iv s1, rv r_2253, rv r_2260, .unset, .unset, .unset, .unset]) rfl ?_
    refine XS.iloadN X2260.here hx rfl (hb hby at_84) rfl ?_
    refine XS.iload X2260.here hx rfl (hb hby at_85) rfl ?_
    refine XS.iconst X2260.here hx rfl (hb hby at_87) ?_
    refine XS.iushr X2260.here hx rfl (hb hby at_88) rfl ?_
    exact kt
  rw [← hl4] at pre2267
  obtain ⟨_, _, ⟨T2268, L2268, k2268, n2268⟩, -, X2268, ⟨Lc2268, hQ2268, l2268, y2268, z2268⟩, st2268⟩ := Jvm.LawKit.callS X2260 hx (y := (⟨"com/example/homethread/homethread/cli/ScenarioReportExitStatusPinLaw", "same", "(II)Z"⟩ : MethodName)) hown (mvT hZ (W 46 rfl)) (mvT hZ (W 47 rfl)) (mvT hZ (W 2 rfl)) (mvT hZ (W 48 rfl)) (by decide) (backOf (W := 0) (rm_same l Z a0 hw [] p2 l4 h2260 n0 O2260) hZ (W 48 rfl) (W 2 rfl) (by decide) (by decide)) (g := (mkF m 89 #[iv p0, iv p1, iv p2, iv p3, iv (p3 &&& (3 : Int32)), iv ln, rv r_2229, rv r_2232, iv s0, rv r_2239, rv r_2244, iv s1, rv r_2253, rv r_2260, .unset, .unset, .unset, .unset] [(.int l4), (.int p2)])) rfl (by rw [hml]; rfl) (argsL := [(.int p2), (.int l4)]) (rest := []) (lenOf pd_41 rfl) rfl (by show 2 * 0 + _ ≤ _; exact Nat.le_of_eq rfl) (hb hby at_89) (fun _ _ => ⟨rfl, e2260, (by decide : 18 + 0 ≤ _), (by decide : 48 + 0 ≤ _)⟩)
  dsimp only [Pt.U, Pt.locs, Pt.cells, Pt.slots] at X2268 l2268 y2268 z2268 st2268 hQ2268
  subst l2268 y2268 z2268
  obtain ⟨rfl, M2268, e2268⟩ := hQ2268
  have N2268 := Fr.app N2260 M2268
  have pre2269 : ∀ t, Steps p.tables e below (T2268.setTop (mkF m 92 #[iv p0, iv p1, iv p2, iv p3, iv (p3 &&& (3 : Int32)), iv ln, rv r_2229, rv r_2232, iv s0, rv r_2239, rv r_2244, iv s1, rv r_2253, rv r_2260, .unset, .unset, .unset, .unset] [(.int (own_same p2 l4))])) t → Steps p.tables e below (s₁.setTop (entryFrame m #[(.int p0), (.int p1), (.int p2), (.int p3)] maxLocals)) t := fun t kt => pre2267 _ (st2268 _ kt)
  obtain ⟨s2, hs2⟩ : ∃ z, z = (own_same p2 l4) := ⟨_, rfl⟩
  rw [← hs2] at pre2269
  have pre2270 : ∀ t, Steps p.tables e below (T2268.setTop (mkF m 94 #[iv p0, iv p1, iv p2, iv p3, iv (p3 &&& (3 : Int32)), iv ln, rv r_2229, rv r_2232, iv s0, rv r_2239, rv r_2244, iv s1, rv r_2253, rv r_2260, iv s2, .unset, .unset, .unset] [])) t → Steps p.tables e below (s₁.setTop (entryFrame m #[(.int p0), (.int p1), (.int p2), (.int p3)] maxLocals)) t := fun t kt => by
    refine pre2269 _ ?_
    show Steps p.tables e below (T2268.setTop (mkF m 92 #[iv p0, iv p1, iv p2, iv p3, iv (p3 &&& (3 : Int32)), iv ln, rv r_2229, rv r_2232, iv s0, rv r_2239, rv r_2244, iv s1, rv r_2253, rv r_2260, .unset, .unset, .unset, .unset] [(.int s2)])) _
    refine XS.istore X2268.here hx rfl (hb hby at_92) rfl (l' := #[iv p0, iv p1, iv p2, iv p3, iv (p3 &&& (3 : Int32)), iv ln, rv r_2229, rv r_2232, iv s0, rv r_2239, rv r_2244, iv s1, rv r_2253, rv r_2260, iv s2, .unset, .unset, .unset]) rfl ?_
    exact kt
  have XF2271 : Ext h2260 h2260 := ⟨Nat.le_refl _, fun _ _ q => q⟩
  obtain ⟨T2272, h2272, X2272, e2272, E2272, A2272, D2272, -, st2272⟩ := newO X2268 hx hZ hown (W 49 rfl) (W 50 rfl) (W 51 rfl) e2268 (g := (mkF m 94 #[iv p0, iv p1, iv p2, iv p3, iv (p3 &&& (3 : Int32)), iv ln, rv r_2229, rv r_2232, iv s0, rv r_2239, rv r_2244, iv s1, rv r_2253, rv r_2260, iv s2, .unset, .unset, .unset] [])) rfl (hb hby at_94) (by decide) (by decide)
  obtain ⟨b2272, g2272⟩ : ∃ z, z = h2260.size := ⟨_, rfl⟩
  rw [← g2272] at A2272 D2272 st2272
  have pre2273 : ∀ t, Steps p.tables e below (T2272.setTop (mkF m 97 #[iv p0, iv p1, iv p2, iv p3, iv (p3 &&& (3 : Int32)), iv ln, rv r_2229, rv r_2232, iv s0, rv r_2239, rv r_2244, iv s1, rv r_2253, rv r_2260, iv s2, .unset, .unset, .unset] [(.ref b2272)])) t → Steps p.tables e below (s₁.setTop (entryFrame m #[(.int p0), (.int p1), (.int p2), (.int p3)] maxLocals)) t := fun t kt => pre2270 _ (st2272 _ kt)
  have O2272 := O2260.ext E2272
  have K2272 : Keep h0 h2272 [] := K2260.ext E2272
  have XF2274 : Ext h2260 h2272 := own_ext_trans XF2271 E2272
  have g_b2272 : n0 ≤ b2272 := Nat.le_trans (Nat.le_trans (Nat.le_of_eq O2260.1.symm) O2260.2.1) (Nat.le_of_eq g2272.symm)
  have sz_b2272 : h0.size ≤ b2272 := Nat.le_trans K2260.1 (Nat.le_of_eq g2272.symm)
  have zF_b2272 : h2260.size ≤ b2272 := Nat.le_trans XF2271.1 (Nat.le_of_eq g2272.symm)
  have ne_ad_b2272 : ad ≠ b2272 := Nat.ne_of_lt (Nat.lt_of_lt_of_le (G2.ext O2260.2).lt (Nat.le_of_eq g2272.symm))
  have ne_r_2229_b2272 : r_2229 ≠ b2272 := Nat.ne_of_lt (Nat.lt_of_lt_of_le (own_str_lt (own_str_ext F2262 XF2271)) (Nat.le_of_eq g2272.symm))
  have ne_r_2232_b2272 : r_2232 ≠ b2272 := Nat.ne_of_lt (Nat.lt_of_lt_of_le (own_str_lt (own_str_ext F2263 XF2271)) (Nat.le_of_eq g2272.symm))
  have ne_r_2239_b2272 : r_2239 ≠ b2272 := Nat.ne_of_lt (Nat.lt_of_lt_of_le (own_str_lt (own_str_ext F2264 XF2271)) (Nat.le_of_eq g2272.symm))
  have ne_r_2244_b2272 : r_2244 ≠ b2272 := Nat.ne_of_lt (Nat.lt_of_lt_of_le (own_str_lt (own_str_ext F2265 XF2271)) (Nat.le_of_eq g2272.symm))
  have ne_r_2253_b2272 : r_2253 ≠ b2272 := Nat.ne_of_lt (Nat.lt_of_lt_of_le (own_str_lt (own_str_ext F2266 XF2271)) (Nat.le_of_eq g2272.symm))
  have ne_r_2260_b2272 : r_2260 ≠ b2272 := Nat.ne_of_lt (Nat.lt_of_lt_of_le (own_str_lt (own_str_ext J2260_0 XF2271)) (Nat.le_of_eq g2272.symm))
  have F2275 : Exa Z h2272 b2272 "com/example/homethread/homethread/cli/ScenarioReport" := A2272
  have F2276 : Fld Z h2272 b2272 "com/example/homethread/homethread/cli/ScenarioReport" "lines" "Ljava/util/List;" .null := D2272 (Or.inr (W 81 rfl)) (ty := (.object "java/util/List")) (by decide)
  have F2277 : Fld Z h2272 b2272 "com/example/homethread/homethread/cli/ScenarioReport" "differs" "Z" (.int (0 : Int32)) := D2272 (Or.inl (W 88 rfl)) (ty := .boolean) (by decide)
  have pre2278 : ∀ t, Steps p.tables e below (T2272.setTop (mkF m 98 #[iv p0, iv p1, iv p2, iv p3, iv (p3 &&& (3 : Int32)), iv ln, rv r_2229, rv r_2232, iv s0, rv r_2239, rv r_2244, iv s1, rv r_2253, rv r_2260, iv s2, .unset, .unset, .unset] [(.ref b2272), (.ref b2272)])) t → Steps p.tables e below (s₁.setTop (entryFrame m #[(.int p0), (.int p1), (.int p2), (.int p3)] maxLocals)) t := fun t kt => by
    refine pre2273 _ ?_
    show Steps p.tables e below (T2272.setTop (mkF m 97 #[iv p0, iv p1, iv p2, iv p3, iv (p3 &&& (3 : Int32)), iv ln, rv r_2229, rv r_2232, iv s0, rv r_2239, rv r_2244, iv s1, rv r_2253, rv r_2260, iv s2, .unset, .unset, .unset] [(.ref b2272)])) _
    refine XS.dup X2272.here hx rfl (hb hby at_97) rfl rfl ?_
    exact kt
  obtain ⟨_, _, ⟨T2279, L2279, k2279, n2279⟩, -, X2279, ⟨Lc2279, hQ2279, l2279, y2279, z2279⟩, st2279⟩ := X2272.specialBack hx (y := (⟨"com/example/homethread/homethread/cli/ScenarioReport", "<init>", "()V"⟩ : MethodName)) rfl hown (mvT hZ (W 52 rfl)) (mvT hZ (W 53 rfl)) (mvT hZ (W 54 rfl)) (by decide) (backOf (W := 1) (rm_init13_0 l Z a0 hw [] b2272 ad h2272 n0 O2272 G1 g_b2272 F2275 F2276 F2277) hZ (W 54 rfl) (W 51 rfl) (by decide) (by decide)) (g := (mkF m 98 #[iv p0, iv p1, iv p2, iv p3, iv (p3 &&& (3 : Int32)), iv ln, rv r_2229, rv r_2232, iv s0, rv r_2239, rv r_2244, iv s1, rv r_2253, rv r_2260, iv s2, .unset, .unset, .unset] [(.ref b2272), (.ref b2272)])) rfl (by rw [hml]; rfl) (Steps.refl _) (a := b2272) (argsL := []) (rest := [(.ref b2272)]) (lenOf pd_44 rfl) rfl (by show 2 * 0 + _ ≤ _; exact Nat.le_of_eq rfl) (hb hby at_98) (fun _ _ => ⟨rfl, e2272, (by decide : 19 + 1 ≤ _), (by decide : 50 + 3 ≤ _)⟩)
  dsimp only [Pt.U, Pt.locs, Pt.cells, Pt.slots] at X2279 l2279 y2279 z2279 st2279 hQ2279
  subst l2279 y2279 z2279
  obtain ⟨b2446_2279, rfl, M2279, Kc2279, O2279, J2279_0, J2279_1, J2279_2, J2279_3, J2279_4, J2279_5, J2279_6, P2279_0⟩ := hQ2279
  obtain ⟨h2279, e2279⟩ : ∃ z, T2279.heap = z := ⟨_, rfl⟩
  rw [e2279] at Kc2279 O2279 J2279_0 J2279_1 J2279_2 J2279_3 J2279_4 J2279_5 J2279_6
  try rw [e2279] at P2279_0
  have N2279 := Fr.app N2268 M2279
  have K2279 : Keep h0 h2279 [] := K2272.trans Kc2279 (own_all1 (Or.inr sz_b2272))
  have pre2470 : ∀ t, Steps p.tables e below (T2279.setTop (mkF m 101 #[iv p0, iv p1, iv p2, iv p3, iv (p3 &&& (3 : Int32)), iv ln, rv r_2229, rv r_2232, iv s0, rv r_2239, rv r_2244, iv s1, rv r_2253, rv r_2260, iv s2, .unset, .unset, .unset] [(.ref b2272)])) t → Steps p.tables e below (s₁.setTop (entryFrame m #[(.int p0), (.int p1), (.int p2), (.int p3)] maxLocals)) t := fun t kt => pre2278 _ (st2279.trans kt)
  have XF2471 : Ext h2260 h2279 := own_ext_keep XF2274 Kc2279 (own_all1 zF_b2272)
  have sz_b2446_2279 : h0.size ≤ b2446_2279 := Nat.le_trans K2272.1 P2279_0
  have ne_ad_b2446_2279 : ad ≠ b2446_2279 := Nat.ne_of_lt (Nat.lt_of_lt_of_le (G2.ext O2272.2).lt P2279_0)
  have ne_r_2229_b2446_2279 : r_2229 ≠ b2446_2279 := Nat.ne_of_lt (Nat.lt_of_lt_of_le (own_str_lt (own_str_ext F2262 XF2274)) P2279_0)
  have ne_r_2232_b2446_2279 : r_2232 ≠ b2446_2279 := Nat.ne_of_lt (Nat.lt_of_lt_of_le (own_str_lt (own_str_ext F2263 XF2274)) P2279_0)
  have ne_r_2239_b2446_2279 : r_2239 ≠ b2446_2279 := Nat.ne_of_lt (Nat.lt_of_lt_of_le (own_str_lt (own_str_ext F2264 XF2274)) P2279_0)
  have ne_r_2244_b2446_2279 : r_2244 ≠ b2446_2279 := Nat.ne_of_lt (Nat.lt_of_lt_of_le (own_str_lt (own_str_ext F2265 XF2274)) P2279_0)
  have ne_r_2253_b2446_2279 : r_2253 ≠ b2446_2279 := Nat.ne_of_lt (Nat.lt_of_lt_of_le (own_str_lt (own_str_ext F2266 XF2274)) P2279_0)
  have ne_r_2260_b2446_2279 : r_2260 ≠ b2446_2279 := Nat.ne_of_lt (Nat.lt_of_lt_of_le (own_str_lt (own_str_ext J2260_0 XF2274)) P2279_0)
  have ne_b2272_b2446_2279 : b2272 ≠ b2446_2279 := Nat.ne_of_lt (Nat.lt_of_lt_of_le F2275.lt P2279_0)
  have g_b2446_2279 : n0 ≤ b2446_2279 := Nat.le_trans (Nat.le_trans (Nat.le_of_eq O0.1.symm) O0.2.1) sz_b2446_2279
  have zF_b2446_2279 : h2260.size ≤ b2446_2279 := Nat.le_trans XF2274.1 P2279_0
  have pre2472 : ∀ t, Steps p.tables e below (T2279.setTop (mkF m 105 #[iv p0, iv p1, iv p2, iv p3, iv (p3 &&& (3 : Int32)), iv ln, rv r_2229, rv r_2232, iv s0, rv r_2239, rv r_2244, iv s1, rv r_2253, rv r_2260, iv s2, rv b2272, .unset, .unset] [(.ref b2272)])) t → Steps p.tables e below (s₁.setTop (entryFrame m #[(.int p0), (.int p1), (.int p2), (.int p3)] maxLocals)) t := fun t kt => by
    refine pre2470 _ ?_
    show Steps p.tables e below (T2279.setTop (mkF m 101 #[iv p0, iv p1, iv p2, iv p3, iv (p3 &&& (3 : Int32)), iv ln, rv r_2229, rv r_2232, iv s0, rv r_2239, rv r_2244, iv s1, rv r_2253, rv r_2260, iv s2, .unset, .unset, .unset] [(.ref b2272)])) _
    refine XS.astore X2279.here hx rfl (hb hby at_101) rfl rfl (l' := #[iv p0, iv p1, iv p2, iv p3, iv (p3 &&& (3 : Int32)), iv ln, rv r_2229, rv r_2232, iv s0, rv r_2239, rv r_2244, iv s1, rv r_2253, rv r_2260, iv s2, rv b2272, .unset, .unset]) rfl ?_
    refine XS.aload X2279.here hx rfl (hb hby at_103) rfl rfl ?_
    exact kt
  obtain ⟨cq2473, kq2473, q2473a, q2473b, q2473c⟩ := isOf hZ e2279 J2279_0
  obtain ⟨_, _, ⟨T2473, L2473, k2473, n2473⟩, -, X2473, ⟨Lc2473, hQ2473, l2473, y2473, z2473⟩, st2473⟩ := X2279.virtualBack hx (y := (⟨"com/example/homethread/homethread/cli/ScenarioReport", "exitStatus", "()I"⟩ : MethodName)) (z := (⟨"com/example/homethread/homethread/cli/ScenarioReport", "exitStatus", "()I"⟩ : MethodName)) hown (mvT hZ (W 82 rfl)) (mvT hZ (W 83 rfl)) (notFace_of_selects (args := #[]) (mvT hZ (W 85 rfl))) (mvT hZ (W 85 rfl)) (mvT hZ (W 84 rfl)) (by decide) (backOf (W := 0) (rm_exitStatus17_0 l Z a0 hw [] b2272 h2279 n0 O2279 J2279_1) hZ (W 86 rfl) (W 51 rfl) (by decide) (by decide)) q2473a q2473c (g := (mkF m 105 #[iv p0, iv p1, iv p2, iv p3, iv (p3 &&& (3 : Int32)), iv ln, rv r_2229, rv r_2232, iv s0, rv r_2239, rv r_2244, iv s1, rv r_2253, rv r_2260, iv s2, rv b2272, .unset, .unset] [(.ref b2272)])) rfl (by rw [hml]; rfl) (Steps.refl _) (argsL := []) (rest := []) (lenOf pd_50 rfl) rfl (by show 2 * 0 + _ ≤ _; exact Nat.le_of_eq rfl) (hb hby at_105) (fun _ _ => ⟨rfl, e2279, (by decide : 20 + 0 ≤ _), (by decide : 53 + 0 ≤ _)⟩)
  dsimp only [Pt.U, Pt.locs, Pt.cells, Pt.slots] at X2473 l2473 y2473 z2473 st2473 hQ2473
  subst l2473 y2473 z2473
  obtain ⟨rfl, M2473, e2473⟩ := hQ2473
  have N2473 := Fr.app N2279 M2473
  have pre2486 : ∀ t, Steps p.tables e below (T2473.setTop (mkF m 108 #[iv p0, iv p1, iv p2, iv p3, iv (p3 &&& (3 : Int32)), iv ln, rv r_2229, rv r_2232, iv s0, rv r_2239, rv r_2244, iv s1, rv r_2253, rv r_2260, iv s2, rv b2272, .unset, .unset] [(.int (0 : Int32))])) t → Steps p.tables e below (s₁.setTop (entryFrame m #[(.int p0), (.int p1), (.int p2), (.int p3)] maxLocals)) t := fun t kt => pre2472 _ (st2473.trans kt)
  have pre2487 : ∀ t, Steps p.tables e below (T2473.setTop (mkF m 121 #[iv p0, iv p1, iv p2, iv p3, iv (p3 &&& (3 : Int32)), iv ln, rv r_2229, rv r_2232, iv s0, rv r_2239, rv r_2244, iv s1, rv r_2253, rv r_2260, iv s2, rv b2272, iv (1 : Int32), iv (0 : Int32)] [])) t → Steps p.tables e below (s₁.setTop (entryFrame m #[(.int p0), (.int p1), (.int p2), (.int p3)] maxLocals)) t := fun t kt => by
    refine pre2486 _ ?_
    show Steps p.tables e below (T2473.setTop (mkF m 108 #[iv p0, iv p1, iv p2, iv p3, iv (p3 &&& (3 : Int32)), iv ln, rv r_2229, rv r_2232, iv s0, rv r_2239, rv r_2244, iv s1, rv r_2253, rv r_2260, iv s2, rv b2272, .unset, .unset] [(.int (0 : Int32))])) _
    refine XS.ifNo X2473.here hx rfl (hb hby at_108) rfl (XT.i0_ne_f (by decide)) ?_
    refine XS.iconst X2473.here hx rfl (hb hby at_111) ?_
    refine XS.goto X2473.here hx rfl (pc0 := 112) (pc' := 116) rfl (hb hby at_112) (by decide) (by decide) ?_
    refine XS.istore X2473.here hx rfl (hb hby at_116) rfl (l' := #[iv p0, iv p1, iv p2, iv p3, iv (p3 &&& (3 : Int32)), iv ln, rv r_2229, rv r_2232, iv s0, rv r_2239, rv r_2244, iv s1, rv r_2253, rv r_2260, iv s2, rv b2272, iv (1 : Int32), .unset]) rfl ?_
    refine XS.iconst X2473.here hx rfl (hb hby at_118) ?_
    refine XS.istore X2473.here hx rfl (hb hby at_119) rfl (l' := #[iv p0, iv p1, iv p2, iv p3, iv (p3 &&& (3 : Int32)), iv ln, rv r_2229, rv r_2232, iv s0, rv r_2239, rv r_2244, iv s1, rv r_2253, rv r_2260, iv s2, rv b2272, iv (1 : Int32), iv (0 : Int32)]) rfl ?_
    exact kt
  rcases own_mask3 p3 with hv2488 | hv2488 | hv2488 | hv2488
  · rw [hv2488] at pre2487
    have pre2489 : ∀ t, Steps p.tables e below (T2473.setTop (mkF m 299 #[iv p0, iv p1, iv p2, iv p3, iv (0 : Int32), iv ln, rv r_2229, rv r_2232, iv s0, rv r_2239, rv r_2244, iv s1, rv r_2253, rv r_2260, iv s2, rv b2272, iv (1 : Int32), iv (0 : Int32)] [(.ref b2272)])) t → Steps p.tables e below (s₁.setTop (entryFrame m #[(.int p0), (.int p1), (.int p2), (.int p3)] maxLocals)) t := fun t kt => by
      refine pre2487 _ ?_
      show Steps p.tables e below (T2473.setTop (mkF m 121 #[iv p0, iv p1, iv p2, iv p3, iv (0 : Int32), iv ln, rv r_2229, rv r_2232, iv s0, rv r_2239, rv r_2244, iv s1, rv r_2253, rv r_2260, iv s2, rv b2272, iv (1 : Int32), iv (0 : Int32)] [])) _
      refine XS.iload X2473.here hx rfl (hb hby at_121) rfl ?_
      refine XS.iconst X2473.here hx rfl (hb hby at_123) ?_
      refine XS.icmpYes X2473.here hx rfl (pc0 := 124) (pc' := 178) rfl (hb hby at_124) rfl (XT.ii_lt_t (by decide)) (by decide) (by decide) ?_
      refine XS.iload X2473.here hx rfl (hb hby at_178) rfl ?_
      refine XS.iconst X2473.here hx rfl (hb hby at_180) ?_
      refine XS.icmpYes X2473.here hx rfl (pc0 := 181) (pc' := 235) rfl (hb hby at_181) rfl (XT.ii_lt_t (by decide)) (by decide) (by decide) ?_
      refine XS.iload X2473.here hx rfl (hb hby at_235) rfl ?_
      refine XS.iconst X2473.here hx rfl (hb hby at_237) ?_
      show Steps p.tables e below (T2473.setTop (mkF m 238 #[iv p0, iv p1, iv p2, iv p3, iv (0 : Int32), iv ln, rv r_2229, rv r_2232, iv s0, rv r_2239, rv r_2244, iv s1, rv r_2253, rv r_2260, iv s2, rv b2272, iv (1 : Int32), iv (0 : Int32)] [(.int (3 : Int32)), (.int (0 : Int32))])) _
      refine XS.icmpYes X2473.here hx rfl (pc0 := 238) (pc' := 292) rfl (hb hby at_238) rfl (XT.ii_lt_t (by decide)) (by decide) (by decide) ?_
      refine XS.iload X2473.here hx rfl (hb hby at_292) rfl ?_
      refine XS.ifNo X2473.here hx rfl (hb hby at_294) rfl (XT.i0_eq_f (by decide)) ?_
      refine XS.aload X2473.here hx rfl (hb hby at_297) rfl rfl ?_
      exact kt
    obtain ⟨cq2490, kq2490, q2490a, q2490b, q2490c⟩ := isOf hZ e2473 J2279_0
    obtain ⟨_, _, ⟨T2490, L2490, k2490, n2490⟩, -, X2490, ⟨Lc2490, hQ2490, l2490, y2490, z2490⟩, st2490⟩ := X2473.virtualBack hx (y := (⟨"com/example/homethread/homethread/cli/ScenarioReport", "exitStatus", "()I"⟩ : MethodName)) (z := (⟨"com/example/homethread/homethread/cli/ScenarioReport", "exitStatus", "()I"⟩ : MethodName)) hown (mvT hZ (W 82 rfl)) (mvT hZ (W 83 rfl)) (notFace_of_selects (args := #[]) (mvT hZ (W 85 rfl))) (mvT hZ (W 85 rfl)) (mvT hZ (W 84 rfl)) (by decide) (backOf (W := 0) (rm_exitStatus17_0 l Z a0 hw [] b2272 h2279 n0 O2279 J2279_1) hZ (W 86 rfl) (W 51 rfl) (by decide) (by decide)) q2490a q2490c (g := (mkF m 299 #[iv p0, iv p1, iv p2, iv p3, iv (0 : Int32), iv ln, rv r_2229, rv r_2232, iv s0, rv r_2239, rv r_2244, iv s1, rv r_2253, rv r_2260, iv s2, rv b2272, iv (1 : Int32), iv (0 : Int32)] [(.ref b2272)])) rfl (by rw [hml]; rfl) (Steps.refl _) (argsL := []) (rest := []) (lenOf pd_50 rfl) rfl (by show 2 * 0 + _ ≤ _; exact Nat.le_of_eq rfl) (hb hby at_299) (fun _ _ => ⟨rfl, e2473, (by decide : 20 + 0 ≤ _), (by decide : 53 + 0 ≤ _)⟩)
    dsimp only [Pt.U, Pt.locs, Pt.cells, Pt.slots] at X2490 l2490 y2490 z2490 st2490 hQ2490
    subst l2490 y2490 z2490
    obtain ⟨rfl, M2490, e2490⟩ := hQ2490
    have N2490 := Fr.app N2473 M2490
    have pre2491 : ∀ t, Steps p.tables e below (T2490.setTop (mkF m 302 #[iv p0, iv p1, iv p2, iv p3, iv (0 : Int32), iv ln, rv r_2229, rv r_2232, iv s0, rv r_2239, rv r_2244, iv s1, rv r_2253, rv r_2260, iv s2, rv b2272, iv (1 : Int32), iv (0 : Int32)] [(.int (0 : Int32))])) t → Steps p.tables e below (s₁.setTop (entryFrame m #[(.int p0), (.int p1), (.int p2), (.int p3)] maxLocals)) t := fun t kt => pre2489 _ (st2490.trans kt)
    have pre2492 : ∀ t, Steps p.tables e below (T2490.setTop (mkF m 304 #[iv p0, iv p1, iv p2, iv p3, iv (0 : Int32), iv ln, rv r_2229, rv r_2232, iv s0, rv r_2239, rv r_2244, iv s1, rv r_2253, rv r_2260, iv s2, rv b2272, iv (1 : Int32), iv (0 : Int32)] [(.int (0 : Int32)), (.int (0 : Int32))])) t → Steps p.tables e below (s₁.setTop (entryFrame m #[(.int p0), (.int p1), (.int p2), (.int p3)] maxLocals)) t := fun t kt => by
      refine pre2491 _ ?_
      show Steps p.tables e below (T2490.setTop (mkF m 302 #[iv p0, iv p1, iv p2, iv p3, iv (0 : Int32), iv ln, rv r_2229, rv r_2232, iv s0, rv r_2239, rv r_2244, iv s1, rv r_2253, rv r_2260, iv s2, rv b2272, iv (1 : Int32), iv (0 : Int32)] [(.int (0 : Int32))])) _
      refine XS.iload X2490.here hx rfl (hb hby at_302) rfl ?_
      exact kt
    obtain ⟨_, _, ⟨T2493, L2493, k2493, n2493⟩, -, X2493, ⟨Lc2493, hQ2493, l2493, y2493, z2493⟩, st2493⟩ := Jvm.LawKit.callS X2490 hx (y := (⟨"com/example/homethread/homethread/cli/ScenarioReportExitStatusPinLaw", "want", "(Z)I"⟩ : MethodName)) hown (mvT hZ (W 139 rfl)) (mvT hZ (W 140 rfl)) (mvT hZ (W 2 rfl)) (mvT hZ (W 141 rfl)) (by decide) (backOf (W := 1) (rm_want26_0 l Z a0 hw [] h2279 n0 O2279) hZ (W 141 rfl) (W 2 rfl) (by decide) (by decide)) (g := (mkF m 304 #[iv p0, iv p1, iv p2, iv p3, iv (0 : Int32), iv ln, rv r_2229, rv r_2232, iv s0, rv r_2239, rv r_2244, iv s1, rv r_2253, rv r_2260, iv s2, rv b2272, iv (1 : Int32), iv (0 : Int32)] [(.int (0 : Int32)), (.int (0 : Int32))])) rfl (by rw [hml]; rfl) (argsL := [(.int (0 : Int32))]) (rest := [(.int (0 : Int32))]) (lenOf pd_52 rfl) rfl (by show 2 * 0 + _ ≤ _; exact Nat.le_of_eq rfl) (hb hby at_304) (fun _ _ => ⟨rfl, e2490, (by decide : 20 + 0 ≤ _), (by decide : 53 + 0 ≤ _)⟩)
    dsimp only [Pt.U, Pt.locs, Pt.cells, Pt.slots] at X2493 l2493 y2493 z2493 st2493 hQ2493
    subst l2493 y2493 z2493
    obtain ⟨rfl, M2493, e2493⟩ := hQ2493
    have N2493 := Fr.app N2490 M2493
    have pre2497 : ∀ t, Steps p.tables e below (T2493.setTop (mkF m 307 #[iv p0, iv p1, iv p2, iv p3, iv (0 : Int32), iv ln, rv r_2229, rv r_2232, iv s0, rv r_2239, rv r_2244, iv s1, rv r_2253, rv r_2260, iv s2, rv b2272, iv (1 : Int32), iv (0 : Int32)] [(.int (0 : Int32)), (.int (0 : Int32))])) t → Steps p.tables e below (s₁.setTop (entryFrame m #[(.int p0), (.int p1), (.int p2), (.int p3)] maxLocals)) t := fun t kt => pre2492 _ (st2493 _ kt)
    have pre2498 : ∀ t, Steps p.tables e below (T2493.setTop (mkF m 319 #[iv p0, iv p1, iv p2, iv p3, iv (0 : Int32), iv ln, rv r_2229, rv r_2232, iv s0, rv r_2239, rv r_2244, iv s1, rv r_2253, rv r_2260, iv s2, rv b2272, iv (1 : Int32), iv (0 : Int32)] [(.int (1 : Int32))])) t → Steps p.tables e below (s₁.setTop (entryFrame m #[(.int p0), (.int p1), (.int p2), (.int p3)] maxLocals)) t := fun t kt => by
      refine pre2497 _ ?_
      show Steps p.tables e below (T2493.setTop (mkF m 307 #[iv p0, iv p1, iv p2, iv p3, iv (0 : Int32), iv ln, rv r_2229, rv r_2232, iv s0, rv r_2239, rv r_2244, iv s1, rv r_2253, rv r_2260, iv s2, rv b2272, iv (1 : Int32), iv (0 : Int32)] [(.int (0 : Int32)), (.int (0 : Int32))])) _
      refine XS.icmpNo X2493.here hx rfl (hb hby at_307) rfl (XT.ii_ne_f (by decide)) ?_
      refine XS.iconst X2493.here hx rfl (hb hby at_310) ?_
      refine XS.goto X2493.here hx rfl (pc0 := 311) (pc' := 315) rfl (hb hby at_311) (by decide) (by decide) ?_
      refine XS.istore X2493.here hx rfl (hb hby at_315) rfl (l' := #[iv p0, iv p1, iv p2, iv p3, iv (0 : Int32), iv ln, rv r_2229, rv r_2232, iv s0, rv r_2239, rv r_2244, iv s1, rv r_2253, rv r_2260, iv s2, rv b2272, iv (1 : Int32), iv (0 : Int32)]) rfl ?_
      refine XS.iload X2493.here hx rfl (hb hby at_317) rfl ?_
      exact kt
    obtain ⟨fs, hr, hrun, hended, hW, hsame⟩ := X2493.leave (v := some (.int (1 : Int32))) (fun h => by rw [Bd.returns] at h; cases h)
    refine ⟨_, _, pre2498 _ (retN X2493 hx (t := .boolean) Bd.returns (by simp) (hb hby at_319) hr), hrun, hended, _, _, rfl, ?_, ⟨_, rfl⟩, hW, hsame.mono (by decide) (by decide)⟩
    show Q_law Z p0 p1 p2 p3 cz ad kd h0 n0 _ T2493.heap _
    rw [e2493]
    exact ⟨rfl, N2493⟩
  · rw [hv2488] at pre2487
    have pre2499 : ∀ t, Steps p.tables e below (T2473.setTop (mkF m 133 #[iv p0, iv p1, iv p2, iv p3, iv (1 : Int32), iv ln, rv r_2229, rv r_2232, iv s0, rv r_2239, rv r_2244, iv s1, rv r_2253, rv r_2260, iv s2, rv b2272, iv (1 : Int32), iv (0 : Int32)] [(.ref r_2232), (.ref r_2229), (.ref b2272)])) t → Steps p.tables e below (s₁.setTop (entryFrame m #[(.int p0), (.int p1), (.int p2), (.int p3)] maxLocals)) t := fun t kt => by
      refine pre2487 _ ?_
      show Steps p.tables e below (T2473.setTop (mkF m 121 #[iv p0, iv p1, iv p2, iv p3, iv (1 : Int32), iv ln, rv r_2229, rv r_2232, iv s0, rv r_2239, rv r_2244, iv s1, rv r_2253, rv r_2260, iv s2, rv b2272, iv (1 : Int32), iv (0 : Int32)] [])) _
      refine XS.iload X2473.here hx rfl (hb hby at_121) rfl ?_
      refine XS.iconst X2473.here hx rfl (hb hby at_123) ?_
      refine XS.icmpNo X2473.here hx rfl (hb hby at_124) rfl (XT.ii_lt_f (by decide)) ?_
      refine XS.aload X2473.here hx rfl (hb hby at_127) rfl rfl ?_
      refine XS.aload X2473.here hx rfl (hb hby at_129) rfl rfl ?_
      refine XS.aload X2473.here hx rfl (hb hby at_131) rfl rfl ?_
      exact kt
    obtain ⟨cq2500, kq2500, q2500a, q2500b, q2500c⟩ := isOf hZ e2473 J2279_0
    obtain ⟨_, _, ⟨T2500, L2500, k2500, n2500⟩, -, X2500, ⟨Lc2500, hQ2500, l2500, y2500, z2500⟩, st2500⟩ := X2473.virtualBack hx (y := (⟨"com/example/homethread/homethread/cli/ScenarioReport", "expectLine", "(Ljava/lang/String;Ljava/lang/String;)V"⟩ : MethodName)) (z := (⟨"com/example/homethread/homethread/cli/ScenarioReport", "expectLine", "(Ljava/lang/String;Ljava/lang/String;)V"⟩ : MethodName)) hown (mvT hZ (W 89 rfl)) (mvT hZ (W 90 rfl)) (notFace_of_selects (args := #[]) (mvT hZ (W 92 rfl))) (mvT hZ (W 92 rfl)) (mvT hZ (W 91 rfl)) (by decide) (backOf (W := 0) (rm_line0 l Z a0 hw [] b2272 r_2229 r_2232 cz ad kd b2446_2279 ((0 : Int32)) ((0 : Int32)) ((ln &&& (2 : Int32))) ((own_b ((p0 &&& (255 : Int32)) ^^^ (own_x0 p0)))) ((own_b ((((p0.toUInt32 >>> ((8 : Int32) &&& 31).toUInt32).toInt32) &&& (255 : Int32)) ^^^ (own_x1 p0)))) ((ln &&& (1 : Int32))) ((own_b (p0 &&& (255 : Int32)))) ((own_b (((p0.toUInt32 >>> ((8 : Int32) &&& 31).toUInt32).toInt32) &&& (255 : Int32)))) h2279 n0 O2279 G0 G1 G2 G3 g_b2272 g_b2446_2279 J2279_0 J2279_6 J2279_1 J2279_2 J2279_4 J2279_5 J2279_3 qz (fun q => ne_r_2229_r_2232 q.symm) (Or.inl rfl) ne_b2272_b2446_2279 h2260 XF2471 F2263 F2262 zF_b2272 zF_b2446_2279) hZ (W 93 rfl) (W 51 rfl) (by decide) (by decide)) q2500a q2500c (g := (mkF m 133 #[iv p0, iv p1, iv p2, iv p3, iv (1 : Int32), iv ln, rv r_2229, rv r_2232, iv s0, rv r_2239, rv r_2244, iv s1, rv r_2253, rv r_2260, iv s2, rv b2272, iv (1 : Int32), iv (0 : Int32)] [(.ref r_2232), (.ref r_2229), (.ref b2272)])) rfl (by rw [hml]; rfl) (Steps.refl _) (argsL := [(.ref r_2229), (.ref r_2232)]) (rest := []) (lenOf pd_53 rfl) rfl (by show 2 * 0 + _ ≤ _; exact Nat.le_of_eq rfl) (hb hby at_133) (fun _ _ => ⟨rfl, e2473, (by decide : 20 + 1 ≤ _), (by decide : 53 + 10 ≤ _)⟩)
    dsimp only [Pt.U, Pt.locs, Pt.cells, Pt.slots] at X2500 l2500 y2500 z2500 st2500 hQ2500
    subst l2500 y2500 z2500
    obtain ⟨na_2500, kna_2500, rfl, M2500, Kc2500, O2500, J2500_0, J2500_1, J2500_2, J2500_3, J2500_4, J2500_5, J2500_6, J2500_7, J2500_8, J2500_9, P2500_0⟩ := hQ2500
    obtain ⟨h2500, e2500⟩ : ∃ z, T2500.heap = z := ⟨_, rfl⟩
    rw [e2500] at Kc2500 O2500 J2500_0 J2500_1 J2500_2 J2500_3 J2500_4 J2500_5 J2500_6 J2500_7 J2500_8
    try rw [e2500] at P2500_0
    have N2500 := Fr.app N2473 M2500
    have K2500 : Keep h0 h2500 [] := K2279.trans Kc2500 (own_all2 (Or.inr sz_b2272) (Or.inr sz_b2446_2279))
    have pre2501 : ∀ t, Steps p.tables e below (T2500.setTop (mkF m 136 #[iv p0, iv p1, iv p2, iv p3, iv (1 : Int32), iv ln, rv r_2229, rv r_2232, iv s0, rv r_2239, rv r_2244, iv s1, rv r_2253, rv r_2260, iv s2, rv b2272, iv (1 : Int32), iv (0 : Int32)] [])) t → Steps p.tables e below (s₁.setTop (entryFrame m #[(.int p0), (.int p1), (.int p2), (.int p3)] maxLocals)) t := fun t kt => pre2499 _ (st2500.trans kt)
    have XF2502 : Ext h2260 h2500 := own_ext_keep XF2471 Kc2500 (own_all2 zF_b2272 zF_b2446_2279)
    have sz_na_2500 : h0.size ≤ na_2500 := Nat.le_trans K2279.1 P2500_0
    have ne_ad_na_2500 : ad ≠ na_2500 := Nat.ne_of_lt (Nat.lt_of_lt_of_le (G2.ext O2279.2).lt P2500_0)
    have ne_r_2229_na_2500 : r_2229 ≠ na_2500 := Nat.ne_of_lt (Nat.lt_of_lt_of_le (own_str_lt (own_str_ext F2262 XF2471)) P2500_0)
    have ne_r_2232_na_2500 : r_2232 ≠ na_2500 := Nat.ne_of_lt (Nat.lt_of_lt_of_le (own_str_lt (own_str_ext F2263 XF2471)) P2500_0)
    have ne_r_2239_na_2500 : r_2239 ≠ na_2500 := Nat.ne_of_lt (Nat.lt_of_lt_of_le (own_str_lt (own_str_ext F2264 XF2471)) P2500_0)
    have ne_r_2244_na_2500 : r_2244 ≠ na_2500 := Nat.ne_of_lt (Nat.lt_of_lt_of_le (own_str_lt (own_str_ext F2265 XF2471)) P2500_0)
    have ne_r_2253_na_2500 : r_2253 ≠ na_2500 := Nat.ne_of_lt (Nat.lt_of_lt_of_le (own_str_lt (own_str_ext F2266 XF2471)) P2500_0)
    have ne_r_2260_na_2500 : r_2260 ≠ na_2500 := Nat.ne_of_lt (Nat.lt_of_lt_of_le (own_str_lt (own_str_ext J2260_0 XF2471)) P2500_0)
    have ne_b2272_na_2500 : b2272 ≠ na_2500 := Nat.ne_of_lt (Nat.lt_of_lt_of_le J2279_0.lt P2500_0)
    have ne_b2446_2279_na_2500 : b2446_2279 ≠ na_2500 := Nat.ne_of_lt (Nat.lt_of_lt_of_le J2279_2.lt P2500_0)
    have g_na_2500 : n0 ≤ na_2500 := Nat.le_trans (Nat.le_trans (Nat.le_of_eq O0.1.symm) O0.2.1) sz_na_2500
    have zF_na_2500 : h2260.size ≤ na_2500 := Nat.le_trans XF2471.1 P2500_0
    rcases own_sync p0 ln with ⟨hs2503a, hs2503b⟩ | ⟨hs2503a, hs2503b⟩
    · rw [← hs0] at hs2503a
      have F2504 : Fld Z h2500 b2272 "com/example/homethread/homethread/cli/ScenarioReport" "differs" "Z" (.int (1 : Int32)) := own_fldcast J2500_2 (own_dif0 hs2503b)
      have pre2505 : ∀ t, Steps p.tables e below (T2500.setTop (mkF m 160 #[iv p0, iv p1, iv p2, iv p3, iv (1 : Int32), iv ln, rv r_2229, rv r_2232, iv s0, rv r_2239, rv r_2244, iv s1, rv r_2253, rv r_2260, iv s2, rv b2272, iv (1 : Int32), iv (1 : Int32)] [(.ref b2272)])) t → Steps p.tables e below (s₁.setTop (entryFrame m #[(.int p0), (.int p1), (.int p2), (.int p3)] maxLocals)) t := fun t kt => by
        refine pre2501 _ ?_
        show Steps p.tables e below (T2500.setTop (mkF m 136 #[iv p0, iv p1, iv p2, iv p3, iv (1 : Int32), iv ln, rv r_2229, rv r_2232, iv s0, rv r_2239, rv r_2244, iv s1, rv r_2253, rv r_2260, iv s2, rv b2272, iv (1 : Int32), iv (0 : Int32)] [])) _
        refine XS.iload X2500.here hx rfl (hb hby at_136) rfl ?_
        refine XS.ifNo X2500.here hx rfl (hb hby at_138) rfl (XT.i0_ne_f (by decide)) ?_
        refine XS.iload X2500.here hx rfl (hb hby at_141) rfl ?_
        refine XS.ifNo X2500.here hx rfl (hb hby at_143) rfl (XT.i0_ne_f hs2503a) ?_
        refine XS.iconst X2500.here hx rfl (hb hby at_146) ?_
        refine XS.goto X2500.here hx rfl (pc0 := 147) (pc' := 151) rfl (hb hby at_147) (by decide) (by decide) ?_
        refine XS.istore X2500.here hx rfl (hb hby at_151) rfl (l' := #[iv p0, iv p1, iv p2, iv p3, iv (1 : Int32), iv ln, rv r_2229, rv r_2232, iv s0, rv r_2239, rv r_2244, iv s1, rv r_2253, rv r_2260, iv s2, rv b2272, iv (1 : Int32), iv (1 : Int32)]) rfl ?_
        refine XS.iload X2500.here hx rfl (hb hby at_153) rfl ?_
        show Steps p.tables e below (T2500.setTop (mkF m 155 #[iv p0, iv p1, iv p2, iv p3, iv (1 : Int32), iv ln, rv r_2229, rv r_2232, iv s0, rv r_2239, rv r_2244, iv s1, rv r_2253, rv r_2260, iv s2, rv b2272, iv (1 : Int32), iv (1 : Int32)] [(.int (1 : Int32))])) _
        refine XS.ifNo X2500.here hx rfl (hb hby at_155) rfl (XT.i0_eq_f (by decide)) ?_
        refine XS.aload X2500.here hx rfl (hb hby at_158) rfl rfl ?_
        exact kt
      obtain ⟨cq2506, kq2506, q2506a, q2506b, q2506c⟩ := isOf hZ e2500 J2500_0
      obtain ⟨_, _, ⟨T2506, L2506, k2506, n2506⟩, -, X2506, ⟨Lc2506, hQ2506, l2506, y2506, z2506⟩, st2506⟩ := X2500.virtualBack hx (y := (⟨"com/example/homethread/homethread/cli/ScenarioReport", "exitStatus", "()I"⟩ : MethodName)) (z := (⟨"com/example/homethread/homethread/cli/ScenarioReport", "exitStatus", "()I"⟩ : MethodName)) hown (mvT hZ (W 82 rfl)) (mvT hZ (W 83 rfl)) (notFace_of_selects (args := #[]) (mvT hZ (W 85 rfl))) (mvT hZ (W 85 rfl)) (mvT hZ (W 84 rfl)) (by decide) (backOf (W := 0) (rm_exitStatus17_1 l Z a0 hw [] b2272 h2500 n0 O2500 F2504) hZ (W 86 rfl) (W 51 rfl) (by decide) (by decide)) q2506a q2506c (g := (mkF m 160 #[iv p0, iv p1, iv p2, iv p3, iv (1 : Int32), iv ln, rv r_2229, rv r_2232, iv s0, rv r_2239, rv r_2244, iv s1, rv r_2253, rv r_2260, iv s2, rv b2272, iv (1 : Int32), iv (1 : Int32)] [(.ref b2272)])) rfl (by rw [hml]; rfl) (Steps.refl _) (argsL := []) (rest := []) (lenOf pd_50 rfl) rfl (by show 2 * 0 + _ ≤ _; exact Nat.le_of_eq rfl) (hb hby at_160) (fun _ _ => ⟨rfl, e2500, (by decide : 21 + 0 ≤ _), (by decide : 63 + 0 ≤ _)⟩)
      dsimp only [Pt.U, Pt.locs, Pt.cells, Pt.slots] at X2506 l2506 y2506 z2506 st2506 hQ2506
      subst l2506 y2506 z2506
      obtain ⟨rfl, M2506, e2506⟩ := hQ2506
      have N2506 := Fr.app N2500 M2506
      have pre2519 : ∀ t, Steps p.tables e below (T2506.setTop (mkF m 163 #[iv p0, iv p1, iv p2, iv p3, iv (1 : Int32), iv ln, rv r_2229, rv r_2232, iv s0, rv r_2239, rv r_2244, iv s1, rv r_2253, rv r_2260, iv s2, rv b2272, iv (1 : Int32), iv (1 : Int32)] [(.int (1 : Int32))])) t → Steps p.tables e below (s₁.setTop (entryFrame m #[(.int p0), (.int p1), (.int p2), (.int p3)] maxLocals)) t := fun t kt => pre2505 _ (st2506.trans kt)
      have pre2520 : ∀ t, Steps p.tables e below (T2506.setTop (mkF m 165 #[iv p0, iv p1, iv p2, iv p3, iv (1 : Int32), iv ln, rv r_2229, rv r_2232, iv s0, rv r_2239, rv r_2244, iv s1, rv r_2253, rv r_2260, iv s2, rv b2272, iv (1 : Int32), iv (1 : Int32)] [(.int (1 : Int32)), (.int (1 : Int32))])) t → Steps p.tables e below (s₁.setTop (entryFrame m #[(.int p0), (.int p1), (.int p2), (.int p3)] maxLocals)) t := fun t kt => by
        refine pre2519 _ ?_
        show Steps p.tables e below (T2506.setTop (mkF m 163 #[iv p0, iv p1, iv p2, iv p3, iv (1 : Int32), iv ln, rv r_2229, rv r_2232, iv s0, rv r_2239, rv r_2244, iv s1, rv r_2253, rv r_2260, iv s2, rv b2272, iv (1 : Int32), iv (1 : Int32)] [(.int (1 : Int32))])) _
        refine XS.iload X2506.here hx rfl (hb hby at_163) rfl ?_
        exact kt
      obtain ⟨_, _, ⟨T2521, L2521, k2521, n2521⟩, -, X2521, ⟨Lc2521, hQ2521, l2521, y2521, z2521⟩, st2521⟩ := Jvm.LawKit.callS X2506 hx (y := (⟨"com/example/homethread/homethread/cli/ScenarioReportExitStatusPinLaw", "want", "(Z)I"⟩ : MethodName)) hown (mvT hZ (W 139 rfl)) (mvT hZ (W 140 rfl)) (mvT hZ (W 2 rfl)) (mvT hZ (W 141 rfl)) (by decide) (backOf (W := 1) (rm_want26_1 l Z a0 hw [] h2500 n0 O2500) hZ (W 141 rfl) (W 2 rfl) (by decide) (by decide)) (g := (mkF m 165 #[iv p0, iv p1, iv p2, iv p3, iv (1 : Int32), iv ln, rv r_2229, rv r_2232, iv s0, rv r_2239, rv r_2244, iv s1, rv r_2253, rv r_2260, iv s2, rv b2272, iv (1 : Int32), iv (1 : Int32)] [(.int (1 : Int32)), (.int (1 : Int32))])) rfl (by rw [hml]; rfl) (argsL := [(.int (1 : Int32))]) (rest := [(.int (1 : Int32))]) (lenOf pd_52 rfl) rfl (by show 2 * 0 + _ ≤ _; exact Nat.le_of_eq rfl) (hb hby at_165) (fun _ _ => ⟨rfl, e2506, (by decide : 21 + 0 ≤ _), (by decide : 63 + 0 ≤ _)⟩)
      dsimp only [Pt.U, Pt.locs, Pt.cells, Pt.slots] at X2521 l2521 y2521 z2521 st2521 hQ2521
      subst l2521 y2521 z2521
      obtain ⟨rfl, M2521, e2521⟩ := hQ2521
      have N2521 := Fr.app N2506 M2521
      have pre2525 : ∀ t, Steps p.tables e below (T2521.setTop (mkF m 168 #[iv p0, iv p1, iv p2, iv p3, iv (1 : Int32), iv ln, rv r_2229, rv r_2232, iv s0, rv r_2239, rv r_2244, iv s1, rv r_2253, rv r_2260, iv s2, rv b2272, iv (1 : Int32), iv (1 : Int32)] [(.int (1 : Int32)), (.int (1 : Int32))])) t → Steps p.tables e below (s₁.setTop (entryFrame m #[(.int p0), (.int p1), (.int p2), (.int p3)] maxLocals)) t := fun t kt => pre2520 _ (st2521 _ kt)
      have pre2526 : ∀ t, Steps p.tables e below (T2521.setTop (mkF m 299 #[iv p0, iv p1, iv p2, iv p3, iv (1 : Int32), iv ln, rv r_2229, rv r_2232, iv s0, rv r_2239, rv r_2244, iv s1, rv r_2253, rv r_2260, iv s2, rv b2272, iv (1 : Int32), iv (1 : Int32)] [(.ref b2272)])) t → Steps p.tables e below (s₁.setTop (entryFrame m #[(.int p0), (.int p1), (.int p2), (.int p3)] maxLocals)) t := fun t kt => by
        refine pre2525 _ ?_
        show Steps p.tables e below (T2521.setTop (mkF m 168 #[iv p0, iv p1, iv p2, iv p3, iv (1 : Int32), iv ln, rv r_2229, rv r_2232, iv s0, rv r_2239, rv r_2244, iv s1, rv r_2253, rv r_2260, iv s2, rv b2272, iv (1 : Int32), iv (1 : Int32)] [(.int (1 : Int32)), (.int (1 : Int32))])) _
        refine XS.icmpNo X2521.here hx rfl (hb hby at_168) rfl (XT.ii_ne_f (by decide)) ?_
        refine XS.iconst X2521.here hx rfl (hb hby at_171) ?_
        refine XS.goto X2521.here hx rfl (pc0 := 172) (pc' := 176) rfl (hb hby at_172) (by decide) (by decide) ?_
        refine XS.istore X2521.here hx rfl (hb hby at_176) rfl (l' := #[iv p0, iv p1, iv p2, iv p3, iv (1 : Int32), iv ln, rv r_2229, rv r_2232, iv s0, rv r_2239, rv r_2244, iv s1, rv r_2253, rv r_2260, iv s2, rv b2272, iv (1 : Int32), iv (1 : Int32)]) rfl ?_
        refine XS.iload X2521.here hx rfl (hb hby at_178) rfl ?_
        refine XS.iconst X2521.here hx rfl (hb hby at_180) ?_
        refine XS.icmpYes X2521.here hx rfl (pc0 := 181) (pc' := 235) rfl (hb hby at_181) rfl (XT.ii_lt_t (by decide)) (by decide) (by decide) ?_
        refine XS.iload X2521.here hx rfl (hb hby at_235) rfl ?_
        show Steps p.tables e below (T2521.setTop (mkF m 237 #[iv p0, iv p1, iv p2, iv p3, iv (1 : Int32), iv ln, rv r_2229, rv r_2232, iv s0, rv r_2239, rv r_2244, iv s1, rv r_2253, rv r_2260, iv s2, rv b2272, iv (1 : Int32), iv (1 : Int32)] [(.int (1 : Int32))])) _
        refine XS.iconst X2521.here hx rfl (hb hby at_237) ?_
        refine XS.icmpYes X2521.here hx rfl (pc0 := 238) (pc' := 292) rfl (hb hby at_238) rfl (XT.ii_lt_t (by decide)) (by decide) (by decide) ?_
        refine XS.iload X2521.here hx rfl (hb hby at_292) rfl ?_
        refine XS.ifNo X2521.here hx rfl (hb hby at_294) rfl (XT.i0_eq_f (by decide)) ?_
        refine XS.aload X2521.here hx rfl (hb hby at_297) rfl rfl ?_
        exact kt
      obtain ⟨cq2527, kq2527, q2527a, q2527b, q2527c⟩ := isOf hZ e2521 J2500_0
      obtain ⟨_, _, ⟨T2527, L2527, k2527, n2527⟩, -, X2527, ⟨Lc2527, hQ2527, l2527, y2527, z2527⟩, st2527⟩ := X2521.virtualBack hx (y := (⟨"com/example/homethread/homethread/cli/ScenarioReport", "exitStatus", "()I"⟩ : MethodName)) (z := (⟨"com/example/homethread/homethread/cli/ScenarioReport", "exitStatus", "()I"⟩ : MethodName)) hown (mvT hZ (W 82 rfl)) (mvT hZ (W 83 rfl)) (notFace_of_selects (args := #[]) (mvT hZ (W 85 rfl))) (mvT hZ (W 85 rfl)) (mvT hZ (W 84 rfl)) (by decide) (backOf (W := 0) (rm_exitStatus17_1 l Z a0 hw [] b2272 h2500 n0 O2500 F2504) hZ (W 86 rfl) (W 51 rfl) (by decide) (by decide)) q2527a q2527c (g := (mkF m 299 #[iv p0, iv p1, iv p2, iv p3, iv (1 : Int32), iv ln, rv r_2229, rv r_2232, iv s0, rv r_2239, rv r_2244, iv s1, rv r_2253, rv r_2260, iv s2, rv b2272, iv (1 : Int32), iv (1 : Int32)] [(.ref b2272)])) rfl (by rw [hml]; rfl) (Steps.refl _) (argsL := []) (rest := []) (lenOf pd_50 rfl) rfl (by show 2 * 0 + _ ≤ _; exact Nat.le_of_eq rfl) (hb hby at_299) (fun _ _ => ⟨rfl, e2521, (by decide : 21 + 0 ≤ _), (by decide : 63 + 0 ≤ _)⟩)
      dsimp only [Pt.U, Pt.locs, Pt.cells, Pt.slots] at X2527 l2527 y2527 z2527 st2527 hQ2527
      subst l2527 y2527 z2527
      obtain ⟨rfl, M2527, e2527⟩ := hQ2527
      have N2527 := Fr.app N2521 M2527
      have pre2528 : ∀ t, Steps p.tables e below (T2527.setTop (mkF m 302 #[iv p0, iv p1, iv p2, iv p3, iv (1 : Int32), iv ln, rv r_2229, rv r_2232, iv s0, rv r_2239, rv r_2244, iv s1, rv r_2253, rv r_2260, iv s2, rv b2272, iv (1 : Int32), iv (1 : Int32)] [(.int (1 : Int32))])) t → Steps p.tables e below (s₁.setTop (entryFrame m #[(.int p0), (.int p1), (.int p2), (.int p3)] maxLocals)) t := fun t kt => pre2526 _ (st2527.trans kt)
      have pre2529 : ∀ t, Steps p.tables e below (T2527.setTop (mkF m 304 #[iv p0, iv p1, iv p2, iv p3, iv (1 : Int32), iv ln, rv r_2229, rv r_2232, iv s0, rv r_2239, rv r_2244, iv s1, rv r_2253, rv r_2260, iv s2, rv b2272, iv (1 : Int32), iv (1 : Int32)] [(.int (1 : Int32)), (.int (1 : Int32))])) t → Steps p.tables e below (s₁.setTop (entryFrame m #[(.int p0), (.int p1), (.int p2), (.int p3)] maxLocals)) t := fun t kt => by
        refine pre2528 _ ?_
        show Steps p.tables e below (T2527.setTop (mkF m 302 #[iv p0, iv p1, iv p2, iv p3, iv (1 : Int32), iv ln, rv r_2229, rv r_2232, iv s0, rv r_2239, rv r_2244, iv s1, rv r_2253, rv r_2260, iv s2, rv b2272, iv (1 : Int32), iv (1 : Int32)] [(.int (1 : Int32))])) _
        refine XS.iload X2527.here hx rfl (hb hby at_302) rfl ?_
        exact kt
      obtain ⟨_, _, ⟨T2530, L2530, k2530, n2530⟩, -, X2530, ⟨Lc2530, hQ2530, l2530, y2530, z2530⟩, st2530⟩ := Jvm.LawKit.callS X2527 hx (y := (⟨"com/example/homethread/homethread/cli/ScenarioReportExitStatusPinLaw", "want", "(Z)I"⟩ : MethodName)) hown (mvT hZ (W 139 rfl)) (mvT hZ (W 140 rfl)) (mvT hZ (W 2 rfl)) (mvT hZ (W 141 rfl)) (by decide) (backOf (W := 1) (rm_want26_1 l Z a0 hw [] h2500 n0 O2500) hZ (W 141 rfl) (W 2 rfl) (by decide) (by decide)) (g := (mkF m 304 #[iv p0, iv p1, iv p2, iv p3, iv (1 : Int32), iv ln, rv r_2229, rv r_2232, iv s0, rv r_2239, rv r_2244, iv s1, rv r_2253, rv r_2260, iv s2, rv b2272, iv (1 : Int32), iv (1 : Int32)] [(.int (1 : Int32)), (.int (1 : Int32))])) rfl (by rw [hml]; rfl) (argsL := [(.int (1 : Int32))]) (rest := [(.int (1 : Int32))]) (lenOf pd_52 rfl) rfl (by show 2 * 0 + _ ≤ _; exact Nat.le_of_eq rfl) (hb hby at_304) (fun _ _ => ⟨rfl, e2527, (by decide : 21 + 0 ≤ _), (by decide : 63 + 0 ≤ _)⟩)
      dsimp only [Pt.U, Pt.locs, Pt.cells, Pt.slots] at X2530 l2530 y2530 z2530 st2530 hQ2530
      subst l2530 y2530 z2530
      obtain ⟨rfl, M2530, e2530⟩ := hQ2530
      have N2530 := Fr.app N2527 M2530
      have pre2531 : ∀ t, Steps p.tables e below (T2530.setTop (mkF m 307 #[iv p0, iv p1, iv p2, iv p3, iv (1 : Int32), iv ln, rv r_2229, rv r_2232, iv s0, rv r_2239, rv r_2244, iv s1, rv r_2253, rv r_2260, iv s2, rv b2272, iv (1 : Int32), iv (1 : Int32)] [(.int (1 : Int32)), (.int (1 : Int32))])) t → Steps p.tables e below (s₁.setTop (entryFrame m #[(.int p0), (.int p1), (.int p2), (.int p3)] maxLocals)) t := fun t kt => pre2529 _ (st2530 _ kt)
      have pre2532 : ∀ t, Steps p.tables e below (T2530.setTop (mkF m 319 #[iv p0, iv p1, iv p2, iv p3, iv (1 : Int32), iv ln, rv r_2229, rv r_2232, iv s0, rv r_2239, rv r_2244, iv s1, rv r_2253, rv r_2260, iv s2, rv b2272, iv (1 : Int32), iv (1 : Int32)] [(.int (1 : Int32))])) t → Steps p.tables e below (s₁.setTop (entryFrame m #[(.int p0), (.int p1), (.int p2), (.int p3)] maxLocals)) t := fun t kt => by
        refine pre2531 _ ?_
        show Steps p.tables e below (T2530.setTop (mkF m 307 #[iv p0, iv p1, iv p2, iv p3, iv (1 : Int32), iv ln, rv r_2229, rv r_2232, iv s0, rv r_2239, rv r_2244, iv s1, rv r_2253, rv r_2260, iv s2, rv b2272, iv (1 : Int32), iv (1 : Int32)] [(.int (1 : Int32)), (.int (1 : Int32))])) _
        refine XS.icmpNo X2530.here hx rfl (hb hby at_307) rfl (XT.ii_ne_f (by decide)) ?_
        refine XS.iconst X2530.here hx rfl (hb hby at_310) ?_
        refine XS.goto X2530.here hx rfl (pc0 := 311) (pc' := 315) rfl (hb hby at_311) (by decide) (by decide) ?_
        refine XS.istore X2530.here hx rfl (hb hby at_315) rfl (l' := #[iv p0, iv p1, iv p2, iv p3, iv (1 : Int32), iv ln, rv r_2229, rv r_2232, iv s0, rv r_2239, rv r_2244, iv s1, rv r_2253, rv r_2260, iv s2, rv b2272, iv (1 : Int32), iv (1 : Int32)]) rfl ?_
        refine XS.iload X2530.here hx rfl (hb hby at_317) rfl ?_
        exact kt
      obtain ⟨fs, hr, hrun, hended, hW, hsame⟩ := X2530.leave (v := some (.int (1 : Int32))) (fun h => by rw [Bd.returns] at h; cases h)
      refine ⟨_, _, pre2532 _ (retN X2530 hx (t := .boolean) Bd.returns (by simp) (hb hby at_319) hr), hrun, hended, _, _, rfl, ?_, ⟨_, rfl⟩, hW, hsame.mono (by decide) (by decide)⟩
      show Q_law Z p0 p1 p2 p3 cz ad kd h0 n0 _ T2530.heap _
      rw [e2530]
      exact ⟨rfl, N2530⟩
    · rw [← hs0] at hs2503a
      have F2533 : Fld Z h2500 b2272 "com/example/homethread/homethread/cli/ScenarioReport" "differs" "Z" (.int (0 : Int32)) := own_fldcast J2500_2 (own_dif1 hs2503b)
      have pre2534 : ∀ t, Steps p.tables e below (T2500.setTop (mkF m 160 #[iv p0, iv p1, iv p2, iv p3, iv (1 : Int32), iv ln, rv r_2229, rv r_2232, iv s0, rv r_2239, rv r_2244, iv s1, rv r_2253, rv r_2260, iv s2, rv b2272, iv (1 : Int32), iv (0 : Int32)] [(.ref b2272)])) t → Steps p.tables e below (s₁.setTop (entryFrame m #[(.int p0), (.int p1), (.int p2), (.int p3)] maxLocals)) t := fun t kt => by
        refine pre2501 _ ?_
        show Steps p.tables e below (T2500.setTop (mkF m 136 #[iv p0, iv p1, iv p2, iv p3, iv (1 : Int32), iv ln, rv r_2229, rv r_2232, iv s0, rv r_2239, rv r_2244, iv s1, rv r_2253, rv r_2260, iv s2, rv b2272, iv (1 : Int32), iv (0 : Int32)] [])) _
        refine XS.iload X2500.here hx rfl (hb hby at_136) rfl ?_
        refine XS.ifNo X2500.here hx rfl (hb hby at_138) rfl (XT.i0_ne_f (by decide)) ?_
        refine XS.iload X2500.here hx rfl (hb hby at_141) rfl ?_
        refine XS.ifYes X2500.here hx rfl (pc0 := 143) (pc' := 150) rfl (hb hby at_143) rfl (XT.i0_ne_t hs2503a) (by decide) (by decide) ?_
        refine XS.iconst X2500.here hx rfl (hb hby at_150) ?_
        refine XS.istore X2500.here hx rfl (hb hby at_151) rfl (l' := #[iv p0, iv p1, iv p2, iv p3, iv (1 : Int32), iv ln, rv r_2229, rv r_2232, iv s0, rv r_2239, rv r_2244, iv s1, rv r_2253, rv r_2260, iv s2, rv b2272, iv (1 : Int32), iv (0 : Int32)]) rfl ?_
        refine XS.iload X2500.here hx rfl (hb hby at_153) rfl ?_
        refine XS.ifNo X2500.here hx rfl (hb hby at_155) rfl (XT.i0_eq_f (by decide)) ?_
        show Steps p.tables e below (T2500.setTop (mkF m 158 #[iv p0, iv p1, iv p2, iv p3, iv (1 : Int32), iv ln, rv r_2229, rv r_2232, iv s0, rv r_2239, rv r_2244, iv s1, rv r_2253, rv r_2260, iv s2, rv b2272, iv (1 : Int32), iv (0 : Int32)] [])) _
        refine XS.aload X2500.here hx rfl (hb hby at_158) rfl rfl ?_
        exact kt
      obtain ⟨cq2535, kq2535, q2535a, q2535b, q2535c⟩ := isOf hZ e2500 J2500_0
      obtain ⟨_, _, ⟨T2535, L2535, k2535, n2535⟩, -, X2535, ⟨Lc2535, hQ2535, l2535, y2535, z2535⟩, st2535⟩ := X2500.virtualBack hx (y := (⟨"com/example/homethread/homethread/cli/ScenarioReport", "exitStatus", "()I"⟩ : MethodName)) (z := (⟨"com/example/homethread/homethread/cli/ScenarioReport", "exitStatus", "()I"⟩ : MethodName)) hown (mvT hZ (W 82 rfl)) (mvT hZ (W 83 rfl)) (notFace_of_selects (args := #[]) (mvT hZ (W 85 rfl))) (mvT hZ (W 85 rfl)) (mvT hZ (W 84 rfl)) (by decide) (backOf (W := 0) (rm_exitStatus17_0 l Z a0 hw [] b2272 h2500 n0 O2500 F2533) hZ (W 86 rfl) (W 51 rfl) (by decide) (by decide)) q2535a q2535c (g := (mkF m 160 #[iv p0, iv p1, iv p2, iv p3, iv (1 : Int32), iv ln, rv r_2229, rv r_2232, iv s0, rv r_2239, rv r_2244, iv s1, rv r_2253, rv r_2260, iv s2, rv b2272, iv (1 : Int32), iv (0 : Int32)] [(.ref b2272)])) rfl (by rw [hml]; rfl) (Steps.refl _) (argsL := []) (rest := []) (lenOf pd_50 rfl) rfl (by show 2 * 0 + _ ≤ _; exact Nat.le_of_eq rfl) (hb hby at_160) (fun _ _ => ⟨rfl, e2500, (by decide : 21 + 0 ≤ _), (by decide : 63 + 0 ≤ _)⟩)
      dsimp only [Pt.U, Pt.locs, Pt.cells, Pt.slots] at X2535 l2535 y2535 z2535 st2535 hQ2535
      subst l2535 y2535 z2535
      obtain ⟨rfl, M2535, e2535⟩ := hQ2535
      have N2535 := Fr.app N2500 M2535
      have pre2536 : ∀ t, Steps p.tables e below (T2535.setTop (mkF m 163 #[iv p0, iv p1, iv p2, iv p3, iv (1 : Int32), iv ln, rv r_2229, rv r_2232, iv s0, rv r_2239, rv r_2244, iv s1, rv r_2253, rv r_2260, iv s2, rv b2272, iv (1 : Int32), iv (0 : Int32)] [(.int (0 : Int32))])) t → Steps p.tables e below (s₁.setTop (entryFrame m #[(.int p0), (.int p1), (.int p2), (.int p3)] maxLocals)) t := fun t kt => pre2534 _ (st2535.trans kt)
      have pre2537 : ∀ t, Steps p.tables e below (T2535.setTop (mkF m 165 #[iv p0, iv p1, iv p2, iv p3, iv (1 : Int32), iv ln, rv r_2229, rv r_2232, iv s0, rv r_2239, rv r_2244, iv s1, rv r_2253, rv r_2260, iv s2, rv b2272, iv (1 : Int32), iv (0 : Int32)] [(.int (0 : Int32)), (.int (0 : Int32))])) t → Steps p.tables e below (s₁.setTop (entryFrame m #[(.int p0), (.int p1), (.int p2), (.int p3)] maxLocals)) t := fun t kt => by
        refine pre2536 _ ?_
        show Steps p.tables e below (T2535.setTop (mkF m 163 #[iv p0, iv p1, iv p2, iv p3, iv (1 : Int32), iv ln, rv r_2229, rv r_2232, iv s0, rv r_2239, rv r_2244, iv s1, rv r_2253, rv r_2260, iv s2, rv b2272, iv (1 : Int32), iv (0 : Int32)] [(.int (0 : Int32))])) _
        refine XS.iload X2535.here hx rfl (hb hby at_163) rfl ?_
        exact kt
      obtain ⟨_, _, ⟨T2538, L2538, k2538, n2538⟩, -, X2538, ⟨Lc2538, hQ2538, l2538, y2538, z2538⟩, st2538⟩ := Jvm.LawKit.callS X2535 hx (y := (⟨"com/example/homethread/homethread/cli/ScenarioReportExitStatusPinLaw", "want", "(Z)I"⟩ : MethodName)) hown (mvT hZ (W 139 rfl)) (mvT hZ (W 140 rfl)) (mvT hZ (W 2 rfl)) (mvT hZ (W 141 rfl)) (by decide) (backOf (W := 1) (rm_want26_0 l Z a0 hw [] h2500 n0 O2500) hZ (W 141 rfl) (W 2 rfl) (by decide) (by decide)) (g := (mkF m 165 #[iv p0, iv p1, iv p2, iv p3, iv (1 : Int32), iv ln, rv r_2229, rv r_2232, iv s0, rv r_2239, rv r_2244, iv s1, rv r_2253, rv r_2260, iv s2, rv b2272, iv (1 : Int32), iv (0 : Int32)] [(.int (0 : Int32)), (.int (0 : Int32))])) rfl (by rw [hml]; rfl) (argsL := [(.int (0 : Int32))]) (rest := [(.int (0 : Int32))]) (lenOf pd_52 rfl) rfl (by show 2 * 0 + _ ≤ _; exact Nat.le_of_eq rfl) (hb hby at_165) (fun _ _ => ⟨rfl, e2535, (by decide : 21 + 0 ≤ _), (by decide : 63 + 0 ≤ _)⟩)
      dsimp only [Pt.U, Pt.locs, Pt.cells, Pt.slots] at X2538 l2538 y2538 z2538 st2538 hQ2538
      subst l2538 y2538 z2538
      obtain ⟨rfl, M2538, e2538⟩ := hQ2538
      have N2538 := Fr.app N2535 M2538
      have pre2539 : ∀ t, Steps p.tables e below (T2538.setTop (mkF m 168 #[iv p0, iv p1, iv p2, iv p3, iv (1 : Int32), iv ln, rv r_2229, rv r_2232, iv s0, rv r_2239, rv r_2244, iv s1, rv r_2253, rv r_2260, iv s2, rv b2272, iv (1 : Int32), iv (0 : Int32)] [(.int (0 : Int32)), (.int (0 : Int32))])) t → Steps p.tables e below (s₁.setTop (entryFrame m #[(.int p0), (.int p1), (.int p2), (.int p3)] maxLocals)) t := fun t kt => pre2537 _ (st2538 _ kt)
      have pre2540 : ∀ t, Steps p.tables e below (T2538.setTop (mkF m 299 #[iv p0, iv p1, iv p2, iv p3, iv (1 : Int32), iv ln, rv r_2229, rv r_2232, iv s0, rv r_2239, rv r_2244, iv s1, rv r_2253, rv r_2260, iv s2, rv b2272, iv (1 : Int32), iv (0 : Int32)] [(.ref b2272)])) t → Steps p.tables e below (s₁.setTop (entryFrame m #[(.int p0), (.int p1), (.int p2), (.int p3)] maxLocals)) t := fun t kt => by
        refine pre2539 _ ?_
        show Steps p.tables e below (T2538.setTop (mkF m 168 #[iv p0, iv p1, iv p2, iv p3, iv (1 : Int32), iv ln, rv r_2229, rv r_2232, iv s0, rv r_2239, rv r_2244, iv s1, rv r_2253, rv r_2260, iv s2, rv b2272, iv (1 : Int32), iv (0 : Int32)] [(.int (0 : Int32)), (.int (0 : Int32))])) _
        refine XS.icmpNo X2538.here hx rfl (hb hby at_168) rfl (XT.ii_ne_f (by decide)) ?_
        refine XS.iconst X2538.here hx rfl (hb hby at_171) ?_
        refine XS.goto X2538.here hx rfl (pc0 := 172) (pc' := 176) rfl (hb hby at_172) (by decide) (by decide) ?_
        refine XS.istore X2538.here hx rfl (hb hby at_176) rfl (l' := #[iv p0, iv p1, iv p2, iv p3, iv (1 : Int32), iv ln, rv r_2229, rv r_2232, iv s0, rv r_2239, rv r_2244, iv s1, rv r_2253, rv r_2260, iv s2, rv b2272, iv (1 : Int32), iv (0 : Int32)]) rfl ?_
        refine XS.iload X2538.here hx rfl (hb hby at_178) rfl ?_
        refine XS.iconst X2538.here hx rfl (hb hby at_180) ?_
        refine XS.icmpYes X2538.here hx rfl (pc0 := 181) (pc' := 235) rfl (hb hby at_181) rfl (XT.ii_lt_t (by decide)) (by decide) (by decide) ?_
        refine XS.iload X2538.here hx rfl (hb hby at_235) rfl ?_
        show Steps p.tables e below (T2538.setTop (mkF m 237 #[iv p0, iv p1, iv p2, iv p3, iv (1 : Int32), iv ln, rv r_2229, rv r_2232, iv s0, rv r_2239, rv r_2244, iv s1, rv r_2253, rv r_2260, iv s2, rv b2272, iv (1 : Int32), iv (0 : Int32)] [(.int (1 : Int32))])) _
        refine XS.iconst X2538.here hx rfl (hb hby at_237) ?_
        refine XS.icmpYes X2538.here hx rfl (pc0 := 238) (pc' := 292) rfl (hb hby at_238) rfl (XT.ii_lt_t (by decide)) (by decide) (by decide) ?_
        refine XS.iload X2538.here hx rfl (hb hby at_292) rfl ?_
        refine XS.ifNo X2538.here hx rfl (hb hby at_294) rfl (XT.i0_eq_f (by decide)) ?_
        refine XS.aload X2538.here hx rfl (hb hby at_297) rfl rfl ?_
        exact kt
      obtain ⟨cq2541, kq2541, q2541a, q2541b, q2541c⟩ := isOf hZ e2538 J2500_0
      obtain ⟨_, _, ⟨T2541, L2541, k2541, n2541⟩, -, X2541, ⟨Lc2541, hQ2541, l2541, y2541, z2541⟩, st2541⟩ := X2538.virtualBack hx (y := (⟨"com/example/homethread/homethread/cli/ScenarioReport", "exitStatus", "()I"⟩ : MethodName)) (z := (⟨"com/example/homethread/homethread/cli/ScenarioReport", "exitStatus", "()I"⟩ : MethodName)) hown (mvT hZ (W 82 rfl)) (mvT hZ (W 83 rfl)) (notFace_of_selects (args := #[]) (mvT hZ (W 85 rfl))) (mvT hZ (W 85 rfl)) (mvT hZ (W 84 rfl)) (by decide) (backOf (W := 0) (rm_exitStatus17_0 l Z a0 hw [] b2272 h2500 n0 O2500 F2533) hZ (W 86 rfl) (W 51 rfl) (by decide) (by decide)) q2541a q2541c (g := (mkF m 299 #[iv p0, iv p1, iv p2, iv p3, iv (1 : Int32), iv ln, rv r_2229, rv r_2232, iv s0, rv r_2239, rv r_2244, iv s1, rv r_2253, rv r_2260, iv s2, rv b2272, iv (1 : Int32), iv (0 : Int32)] [(.ref b2272)])) rfl (by rw [hml]; rfl) (Steps.refl _) (argsL := []) (rest := []) (lenOf pd_50 rfl) rfl (by show 2 * 0 + _ ≤ _; exact Nat.le_of_eq rfl) (hb hby at_299) (fun _ _ => ⟨rfl, e2538, (by decide : 21 + 0 ≤ _), (by decide : 63 + 0 ≤ _)⟩)
      dsimp only [Pt.U, Pt.locs, Pt.cells, Pt.slots] at X2541 l2541 y2541 z2541 st2541 hQ2541
      subst l2541 y2541 z2541
      obtain ⟨rfl, M2541, e2541⟩ := hQ2541
      have N2541 := Fr.app N2538 M2541
      have pre2542 : ∀ t, Steps p.tables e below (T2541.setTop (mkF m 302 #[iv p0, iv p1, iv p2, iv p3, iv (1 : Int32), iv ln, rv r_2229, rv r_2232, iv s0, rv r_2239, rv r_2244, iv s1, rv r_2253, rv r_2260, iv s2, rv b2272, iv (1 : Int32), iv (0 : Int32)] [(.int (0 : Int32))])) t → Steps p.tables e below (s₁.setTop (entryFrame m #[(.int p0), (.int p1), (.int p2), (.int p3)] maxLocals)) t := fun t kt => pre2540 _ (st2541.trans kt)
      have pre2543 : ∀ t, Steps p.tables e below (T2541.setTop (mkF m 304 #[iv p0, iv p1, iv p2, iv p3, iv (1 : Int32), iv ln, rv r_2229, rv r_2232, iv s0, rv r_2239, rv r_2244, iv s1, rv r_2253, rv r_2260, iv s2, rv b2272, iv (1 : Int32), iv (0 : Int32)] [(.int (0 : Int32)), (.int (0 : Int32))])) t → Steps p.tables e below (s₁.setTop (entryFrame m #[(.int p0), (.int p1), (.int p2), (.int p3)] maxLocals)) t := fun t kt => by
        refine pre2542 _ ?_
        show Steps p.tables e below (T2541.setTop (mkF m 302 #[iv p0, iv p1, iv p2, iv p3, iv (1 : Int32), iv ln, rv r_2229, rv r_2232, iv s0, rv r_2239, rv r_2244, iv s1, rv r_2253, rv r_2260, iv s2, rv b2272, iv (1 : Int32), iv (0 : Int32)] [(.int (0 : Int32))])) _
        refine XS.iload X2541.here hx rfl (hb hby at_302) rfl ?_
        exact kt
      obtain ⟨_, _, ⟨T2544, L2544, k2544, n2544⟩, -, X2544, ⟨Lc2544, hQ2544, l2544, y2544, z2544⟩, st2544⟩ := Jvm.LawKit.callS X2541 hx (y := (⟨"com/example/homethread/homethread/cli/ScenarioReportExitStatusPinLaw", "want", "(Z)I"⟩ : MethodName)) hown (mvT hZ (W 139 rfl)) (mvT hZ (W 140 rfl)) (mvT hZ (W 2 rfl)) (mvT hZ (W 141 rfl)) (by decide) (backOf (W := 1) (rm_want26_0 l Z a0 hw [] h2500 n0 O2500) hZ (W 141 rfl) (W 2 rfl) (by decide) (by decide)) (g := (mkF m 304 #[iv p0, iv p1, iv p2, iv p3, iv (1 : Int32), iv ln, rv r_2229, rv r_2232, iv s0, rv r_2239, rv r_2244, iv s1, rv r_2253, rv r_2260, iv s2, rv b2272, iv (1 : Int32), iv (0 : Int32)] [(.int (0 : Int32)), (.int (0 : Int32))])) rfl (by rw [hml]; rfl) (argsL := [(.int (0 : Int32))]) (rest := [(.int (0 : Int32))]) (lenOf pd_52 rfl) rfl (by show 2 * 0 + _ ≤ _; exact Nat.le_of_eq rfl) (hb hby at_304) (fun _ _ => ⟨rfl, e2541, (by decide : 21 + 0 ≤ _), (by decide : 63 + 0 ≤ _)⟩)
      dsimp only [Pt.U, Pt.locs, Pt.cells, Pt.slots] at X2544 l2544 y2544 z2544 st2544 hQ2544
      subst l2544 y2544 z2544
      obtain ⟨rfl, M2544, e2544⟩ := hQ2544
      have N2544 := Fr.app N2541 M2544
      have pre2545 : ∀ t, Steps p.tables e below (T2544.setTop (mkF m 307 #[iv p0, iv p1, iv p2, iv p3, iv (1 : Int32), iv ln, rv r_2229, rv r_2232, iv s0, rv r_2239, rv r_2244, iv s1, rv r_2253, rv r_2260, iv s2, rv b2272, iv (1 : Int32), iv (0 : Int32)] [(.int (0 : Int32)), (.int (0 : Int32))])) t → Steps p.tables e below (s₁.setTop (entryFrame m #[(.int p0), (.int p1), (.int p2), (.int p3)] maxLocals)) t := fun t kt => pre2543 _ (st2544 _ kt)
      have pre2546 : ∀ t, Steps p.tables e below (T2544.setTop (mkF m 319 #[iv p0, iv p1, iv p2, iv p3, iv (1 : Int32), iv ln, rv r_2229, rv r_2232, iv s0, rv r_2239, rv r_2244, iv s1, rv r_2253, rv r_2260, iv s2, rv b2272, iv (1 : Int32), iv (0 : Int32)] [(.int (1 : Int32))])) t → Steps p.tables e below (s₁.setTop (entryFrame m #[(.int p0), (.int p1), (.int p2), (.int p3)] maxLocals)) t := fun t kt => by
        refine pre2545 _ ?_
        show Steps p.tables e below (T2544.setTop (mkF m 307 #[iv p0, iv p1, iv p2, iv p3, iv (1 : Int32), iv ln, rv r_2229, rv r_2232, iv s0, rv r_2239, rv r_2244, iv s1, rv r_2253, rv r_2260, iv s2, rv b2272, iv (1 : Int32), iv (0 : Int32)] [(.int (0 : Int32)), (.int (0 : Int32))])) _
        refine XS.icmpNo X2544.here hx rfl (hb hby at_307) rfl (XT.ii_ne_f (by decide)) ?_
        refine XS.iconst X2544.here hx rfl (hb hby at_310) ?_
        refine XS.goto X2544.here hx rfl (pc0 := 311) (pc' := 315) rfl (hb hby at_311) (by decide) (by decide) ?_
        refine XS.istore X2544.here hx rfl (hb hby at_315) rfl (l' := #[iv p0, iv p1, iv p2, iv p3, iv (1 : Int32), iv ln, rv r_2229, rv r_2232, iv s0, rv r_2239, rv r_2244, iv s1, rv r_2253, rv r_2260, iv s2, rv b2272, iv (1 : Int32), iv (0 : Int32)]) rfl ?_
        refine XS.iload X2544.here hx rfl (hb hby at_317) rfl ?_
        exact kt
      obtain ⟨fs, hr, hrun, hended, hW, hsame⟩ := X2544.leave (v := some (.int (1 : Int32))) (fun h => by rw [Bd.returns] at h; cases h)
      refine ⟨_, _, pre2546 _ (retN X2544 hx (t := .boolean) Bd.returns (by simp) (hb hby at_319) hr), hrun, hended, _, _, rfl, ?_, ⟨_, rfl⟩, hW, hsame.mono (by decide) (by decide)⟩
      show Q_law Z p0 p1 p2 p3 cz ad kd h0 n0 _ T2544.heap _
      rw [e2544]
      exact ⟨rfl, N2544⟩
  · rw [hv2488] at pre2487
    have pre2547 : ∀ t, Steps p.tables e below (T2473.setTop (mkF m 133 #[iv p0, iv p1, iv p2, iv p3, iv (2 : Int32), iv ln, rv r_2229, rv r_2232, iv s0, rv r_2239, rv r_2244, iv s1, rv r_2253, rv r_2260, iv s2, rv b2272, iv (1 : Int32), iv (0 : Int32)] [(.ref r_2232), (.ref r_2229), (.ref b2272)])) t → Steps p.tables e below (s₁.setTop (entryFrame m #[(.int p0), (.int p1), (.int p2), (.int p3)] maxLocals)) t := fun t kt => by
      refine pre2487 _ ?_
      show Steps p.tables e below (T2473.setTop (mkF m 121 #[iv p0, iv p1, iv p2, iv p3, iv (2 : Int32), iv ln, rv r_2229, rv r_2232, iv s0, rv r_2239, rv r_2244, iv s1, rv r_2253, rv r_2260, iv s2, rv b2272, iv (1 : Int32), iv (0 : Int32)] [])) _
      refine XS.iload X2473.here hx rfl (hb hby at_121) rfl ?_
      refine XS.iconst X2473.here hx rfl (hb hby at_123) ?_
      refine XS.icmpNo X2473.here hx rfl (hb hby at_124) rfl (XT.ii_lt_f (by decide)) ?_
      refine XS.aload X2473.here hx rfl (hb hby at_127) rfl rfl ?_
      refine XS.aload X2473.here hx rfl (hb hby at_129) rfl rfl ?_
      refine XS.aload X2473.here hx rfl (hb hby at_131) rfl rfl ?_
      exact kt
    obtain ⟨cq2548, kq2548, q2548a, q2548b, q2548c⟩ := isOf hZ e2473 J2279_0
    obtain ⟨_, _, ⟨T2548, L2548, k2548, n2548⟩, -, X2548, ⟨Lc2548, hQ2548, l2548, y2548, z2548⟩, st2548⟩ := X2473.virtualBack hx (y := (⟨"com/example/homethread/homethread/cli/ScenarioReport", "expectLine", "(Ljava/lang/String;Ljava/lang/String;)V"⟩ : MethodName)) (z := (⟨"com/example/homethread/homethread/cli/ScenarioReport", "expectLine", "(Ljava/lang/String;Ljava/lang/String;)V"⟩ : MethodName)) hown (mvT hZ (W 89 rfl)) (mvT hZ (W 90 rfl)) (notFace_of_selects (args := #[]) (mvT hZ (W 92 rfl))) (mvT hZ (W 92 rfl)) (mvT hZ (W 91 rfl)) (by decide) (backOf (W := 0) (rm_line0 l Z a0 hw [] b2272 r_2229 r_2232 cz ad kd b2446_2279 ((0 : Int32)) ((0 : Int32)) ((ln &&& (2 : Int32))) ((own_b ((p0 &&& (255 : Int32)) ^^^ (own_x0 p0)))) ((own_b ((((p0.toUInt32 >>> ((8 : Int32) &&& 31).toUInt32).toInt32) &&& (255 : Int32)) ^^^ (own_x1 p0)))) ((ln &&& (1 : Int32))) ((own_b (p0 &&& (255 : Int32)))) ((own_b (((p0.toUInt32 >>> ((8 : Int32) &&& 31).toUInt32).toInt32) &&& (255 : Int32)))) h2279 n0 O2279 G0 G1 G2 G3 g_b2272 g_b2446_2279 J2279_0 J2279_6 J2279_1 J2279_2 J2279_4 J2279_5 J2279_3 qz (fun q => ne_r_2229_r_2232 q.symm) (Or.inl rfl) ne_b2272_b2446_2279 h2260 XF2471 F2263 F2262 zF_b2272 zF_b2446_2279) hZ (W 93 rfl) (W 51 rfl) (by decide) (by decide)) q2548a q2548c (g := (mkF m 133 #[iv p0, iv p1, iv p2, iv p3, iv (2 : Int32), iv ln, rv r_2229, rv r_2232, iv s0, rv r_2239, rv r_2244, iv s1, rv r_2253, rv r_2260, iv s2, rv b2272, iv (1 : Int32), iv (0 : Int32)] [(.ref r_2232), (.ref r_2229), (.ref b2272)])) rfl (by rw [hml]; rfl) (Steps.refl _) (argsL := [(.ref r_2229), (.ref r_2232)]) (rest := []) (lenOf pd_53 rfl) rfl (by show 2 * 0 + _ ≤ _; exact Nat.le_of_eq rfl) (hb hby at_133) (fun _ _ => ⟨rfl, e2473, (by decide : 20 + 1 ≤ _), (by decide : 53 + 10 ≤ _)⟩)
    dsimp only [Pt.U, Pt.locs, Pt.cells, Pt.slots] at X2548 l2548 y2548 z2548 st2548 hQ2548
    subst l2548 y2548 z2548
    obtain ⟨na_2548, kna_2548, rfl, M2548, Kc2548, O2548, J2548_0, J2548_1, J2548_2, J2548_3, J2548_4, J2548_5, J2548_6, J2548_7, J2548_8, J2548_9, P2548_0⟩ := hQ2548
    obtain ⟨h2548, e2548⟩ : ∃ z, T2548.heap = z := ⟨_, rfl⟩
    rw [e2548] at Kc2548 O2548 J2548_0 J2548_1 J2548_2 J2548_3 J2548_4 J2548_5 J2548_6 J2548_7 J2548_8
    try rw [e2548] at P2548_0
    have N2548 := Fr.app N2473 M2548
    have K2548 : Keep h0 h2548 [] := K2279.trans Kc2548 (own_all2 (Or.inr sz_b2272) (Or.inr sz_b2446_2279))
    have pre2549 : ∀ t, Steps p.tables e below (T2548.setTop (mkF m 136 #[iv p0, iv p1, iv p2, iv p3, iv (2 : Int32), iv ln, rv r_2229, rv r_2232, iv s0, rv r_2239, rv r_2244, iv s1, rv r_2253, rv r_2260, iv s2, rv b2272, iv (1 : Int32), iv (0 : Int32)] [])) t → Steps p.tables e below (s₁.setTop (entryFrame m #[(.int p0), (.int p1), (.int p2), (.int p3)] maxLocals)) t := fun t kt => pre2547 _ (st2548.trans kt)
    have XF2550 : Ext h2260 h2548 := own_ext_keep XF2471 Kc2548 (own_all2 zF_b2272 zF_b2446_2279)
    have sz_na_2548 : h0.size ≤ na_2548 := Nat.le_trans K2279.1 P2548_0
    have ne_ad_na_2548 : ad ≠ na_2548 := Nat.ne_of_lt (Nat.lt_of_lt_of_le (G2.ext O2279.2).lt P2548_0)
    have ne_r_2229_na_2548 : r_2229 ≠ na_2548 := Nat.ne_of_lt (Nat.lt_of_lt_of_le (own_str_lt (own_str_ext F2262 XF2471)) P2548_0)
    have ne_r_2232_na_2548 : r_2232 ≠ na_2548 := Nat.ne_of_lt (Nat.lt_of_lt_of_le (own_str_lt (own_str_ext F2263 XF2471)) P2548_0)
    have ne_r_2239_na_2548 : r_2239 ≠ na_2548 := Nat.ne_of_lt (Nat.lt_of_lt_of_le (own_str_lt (own_str_ext F2264 XF2471)) P2548_0)
    have ne_r_2244_na_2548 : r_2244 ≠ na_2548 := Nat.ne_of_lt (Nat.lt_of_lt_of_le (own_str_lt (own_str_ext F2265 XF2471)) P2548_0)
    have ne_r_2253_na_2548 : r_2253 ≠ na_2548 := Nat.ne_of_lt (Nat.lt_of_lt_of_le (own_str_lt (own_str_ext F2266 XF2471)) P2548_0)
    have ne_r_2260_na_2548 : r_2260 ≠ na_2548 := Nat.ne_of_lt (Nat.lt_of_lt_of_le (own_str_lt (own_str_ext J2260_0 XF2471)) P2548_0)
    have ne_b2272_na_2548 : b2272 ≠ na_2548 := Nat.ne_of_lt (Nat.lt_of_lt_of_le J2279_0.lt P2548_0)
    have ne_b2446_2279_na_2548 : b2446_2279 ≠ na_2548 := Nat.ne_of_lt (Nat.lt_of_lt_of_le J2279_2.lt P2548_0)
    have g_na_2548 : n0 ≤ na_2548 := Nat.le_trans (Nat.le_trans (Nat.le_of_eq O0.1.symm) O0.2.1) sz_na_2548
    have zF_na_2548 : h2260.size ≤ na_2548 := Nat.le_trans XF2471.1 P2548_0
    rcases own_sync p0 ln with ⟨hs2551a, hs2551b⟩ | ⟨hs2551a, hs2551b⟩
    · rw [← hs0] at hs2551a
      have F2552 : Fld Z h2548 b2272 "com/example/homethread/homethread/cli/ScenarioReport" "differs" "Z" (.int (1 : Int32)) := own_fldcast J2548_2 (own_dif0 hs2551b)
      have pre2553 : ∀ t, Steps p.tables e below (T2548.setTop (mkF m 160 #[iv p0, iv p1, iv p2, iv p3, iv (2 : Int32), iv ln, rv r_2229, rv r_2232, iv s0, rv r_2239, rv r_2244, iv s1, rv r_2253, rv r_2260, iv s2, rv b2272, iv (1 : Int32), iv (1 : Int32)] [(.ref b2272)])) t → Steps p.tables e below (s₁.setTop (entryFrame m #[(.int p0), (.int p1), (.int p2), (.int p3)] maxLocals)) t := fun t kt => by
        refine pre2549 _ ?_
        show Steps p.tables e below (T2548.setTop (mkF m 136 #[iv p0, iv p1, iv p2, iv p3, iv (2 : Int32), iv ln, rv r_2229, rv r_2232, iv s0, rv r_2239, rv r_2244, iv s1, rv r_2253, rv r_2260, iv s2, rv b2272, iv (1 : Int32), iv (0 : Int32)] [])) _
        refine XS.iload X2548.here hx rfl (hb hby at_136) rfl ?_
        refine XS.ifNo X2548.here hx rfl (hb hby at_138) rfl (XT.i0_ne_f (by decide)) ?_
        refine XS.iload X2548.here hx rfl (hb hby at_141) rfl ?_
        refine XS.ifNo X2548.here hx rfl (hb hby at_143) rfl (XT.i0_ne_f hs2551a) ?_
        refine XS.iconst X2548.here hx rfl (hb hby at_146) ?_
        refine XS.goto X2548.here hx rfl (pc0 := 147) (pc' := 151) rfl (hb hby at_147) (by decide) (by decide) ?_
        refine XS.istore X2548.here hx rfl (hb hby at_151) rfl (l' := #[iv p0, iv p1, iv p2, iv p3, iv (2 : Int32), iv ln, rv r_2229, rv r_2232, iv s0, rv r_2239, rv r_2244, iv s1, rv r_2253, rv r_2260, iv s2, rv b2272, iv (1 : Int32), iv (1 : Int32)]) rfl ?_
        refine XS.iload X2548.here hx rfl (hb hby at_153) rfl ?_
        show Steps p.tables e below (T2548.setTop (mkF m 155 #[iv p0, iv p1, iv p2, iv p3, iv (2 : Int32), iv ln, rv r_2229, rv r_2232, iv s0, rv r_2239, rv r_2244, iv s1, rv r_2253, rv r_2260, iv s2, rv b2272, iv (1 : Int32), iv (1 : Int32)] [(.int (1 : Int32))])) _
        refine XS.ifNo X2548.here hx rfl (hb hby at_155) rfl (XT.i0_eq_f (by decide)) ?_
        refine XS.aload X2548.here hx rfl (hb hby at_158) rfl rfl ?_
        exact kt
      obtain ⟨cq2554, kq2554, q2554a, q2554b, q2554c⟩ := isOf hZ e2548 J2548_0
      obtain ⟨_, _, ⟨T2554, L2554, k2554, n2554⟩, -, X2554, ⟨Lc2554, hQ2554, l2554, y2554, z2554⟩, st2554⟩ := X2548.virtualBack hx (y := (⟨"com/example/homethread/homethread/cli/ScenarioReport", "exitStatus", "()I"⟩ : MethodName)) (z := (⟨"com/example/homethread/homethread/cli/ScenarioReport", "exitStatus", "()I"⟩ : MethodName)) hown (mvT hZ (W 82 rfl)) (mvT hZ (W 83 rfl)) (notFace_of_selects (args := #[]) (mvT hZ (W 85 rfl))) (mvT hZ (W 85 rfl)) (mvT hZ (W 84 rfl)) (by decide) (backOf (W := 0) (rm_exitStatus17_1 l Z a0 hw [] b2272 h2548 n0 O2548 F2552) hZ (W 86 rfl) (W 51 rfl) (by decide) (by decide)) q2554a q2554c (g := (mkF m 160 #[iv p0, iv p1, iv p2, iv p3, iv (2 : Int32), iv ln, rv r_2229, rv r_2232, iv s0, rv r_2239, rv r_2244, iv s1, rv r_2253, rv r_2260, iv s2, rv b2272, iv (1 : Int32), iv (1 : Int32)] [(.ref b2272)])) rfl (by rw [hml]; rfl) (Steps.refl _) (argsL := []) (rest := []) (lenOf pd_50 rfl) rfl (by show 2 * 0 + _ ≤ _; exact Nat.le_of_eq rfl) (hb hby at_160) (fun _ _ => ⟨rfl, e2548, (by decide : 21 + 0 ≤ _), (by decide : 63 + 0 ≤ _)⟩)
      dsimp only [Pt.U, Pt.locs, Pt.cells, Pt.slots] at X2554 l2554 y2554 z2554 st2554 hQ2554
      subst l2554 y2554 z2554
      obtain ⟨rfl, M2554, e2554⟩ := hQ2554
      have N2554 := Fr.app N2548 M2554
      have pre2555 : ∀ t, Steps p.tables e below (T2554.setTop (mkF m 163 #[iv p0, iv p1, iv p2, iv p3, iv (2 : Int32), iv ln, rv r_2229, rv r_2232, iv s0, rv r_2239, rv r_2244, iv s1, rv r_2253, rv r_2260, iv s2, rv b2272, iv (1 : Int32), iv (1 : Int32)] [(.int (1 : Int32))])) t → Steps p.tables e below (s₁.setTop (entryFrame m #[(.int p0), (.int p1), (.int p2), (.int p3)] maxLocals)) t := fun t kt => pre2553 _ (st2554.trans kt)
      have pre2556 : ∀ t, Steps p.tables e below (T2554.setTop (mkF m 165 #[iv p0, iv p1, iv p2, iv p3, iv (2 : Int32), iv ln, rv r_2229, rv r_2232, iv s0, rv r_2239, rv r_2244, iv s1, rv r_2253, rv r_2260, iv s2, rv b2272, iv (1 : Int32), iv (1 : Int32)] [(.int (1 : Int32)), (.int (1 : Int32))])) t → Steps p.tables e below (s₁.setTop (entryFrame m #[(.int p0), (.int p1), (.int p2), (.int p3)] maxLocals)) t := fun t kt => by
        refine pre2555 _ ?_
        show Steps p.tables e below (T2554.setTop (mkF m 163 #[iv p0, iv p1, iv p2, iv p3, iv (2 : Int32), iv ln, rv r_2229, rv r_2232, iv s0, rv r_2239, rv r_2244, iv s1, rv r_2253, rv r_2260, iv s2, rv b2272, iv (1 : Int32), iv (1 : Int32)] [(.int (1 : Int32))])) _
        refine XS.iload X2554.here hx rfl (hb hby at_163) rfl ?_
        exact kt
      obtain ⟨_, _, ⟨T2557, L2557, k2557, n2557⟩, -, X2557, ⟨Lc2557, hQ2557, l2557, y2557, z2557⟩, st2557⟩ := Jvm.LawKit.callS X2554 hx (y := (⟨"com/example/homethread/homethread/cli/ScenarioReportExitStatusPinLaw", "want", "(Z)I"⟩ : MethodName)) hown (mvT hZ (W 139 rfl)) (mvT hZ (W 140 rfl)) (mvT hZ (W 2 rfl)) (mvT hZ (W 141 rfl)) (by decide) (backOf (W := 1) (rm_want26_1 l Z a0 hw [] h2548 n0 O2548) hZ (W 141 rfl) (W 2 rfl) (by decide) (by decide)) (g := (mkF m 165 #[iv p0, iv p1, iv p2, iv p3, iv (2 : Int32), iv ln, rv r_2229, rv r_2232, iv s0, rv r_2239, rv r_2244, iv s1, rv r_2253, rv r_2260, iv s2, rv b2272, iv (1 : Int32), iv (1 : Int32)] [(.int (1 : Int32)), (.int (1 : Int32))])) rfl (by rw [hml]; rfl) (argsL := [(.int (1 : Int32))]) (rest := [(.int (1 : Int32))]) (lenOf pd_52 rfl) rfl (by show 2 * 0 + _ ≤ _; exact Nat.le_of_eq rfl) (hb hby at_165) (fun _ _ => ⟨rfl, e2554, (by decide : 21 + 0 ≤ _), (by decide : 63 + 0 ≤ _)⟩)
      dsimp only [Pt.U, Pt.locs, Pt.cells, Pt.slots] at X2557 l2557 y2557 z2557 st2557 hQ2557
      subst l2557 y2557 z2557
      obtain ⟨rfl, M2557, e2557⟩ := hQ2557
      have N2557 := Fr.app N2554 M2557
      have pre2558 : ∀ t, Steps p.tables e below (T2557.setTop (mkF m 168 #[iv p0, iv p1, iv p2, iv p3, iv (2 : Int32), iv ln, rv r_2229, rv r_2232, iv s0, rv r_2239, rv r_2244, iv s1, rv r_2253, rv r_2260, iv s2, rv b2272, iv (1 : Int32), iv (1 : Int32)] [(.int (1 : Int32)), (.int (1 : Int32))])) t → Steps p.tables e below (s₁.setTop (entryFrame m #[(.int p0), (.int p1), (.int p2), (.int p3)] maxLocals)) t := fun t kt => pre2556 _ (st2557 _ kt)
      have pre2559 : ∀ t, Steps p.tables e below (T2557.setTop (mkF m 190 #[iv p0, iv p1, iv p2, iv p3, iv (2 : Int32), iv ln, rv r_2229, rv r_2232, iv s0, rv r_2239, rv r_2244, iv s1, rv r_2253, rv r_2260, iv s2, rv b2272, iv (1 : Int32), iv (1 : Int32)] [(.ref r_2244), (.ref r_2239), (.ref b2272)])) t → Steps p.tables e below (s₁.setTop (entryFrame m #[(.int p0), (.int p1), (.int p2), (.int p3)] maxLocals)) t := fun t kt => by
        refine pre2558 _ ?_
        show Steps p.tables e below (T2557.setTop (mkF m 168 #[iv p0, iv p1, iv p2, iv p3, iv (2 : Int32), iv ln, rv r_2229, rv r_2232, iv s0, rv r_2239, rv r_2244, iv s1, rv r_2253, rv r_2260, iv s2, rv b2272, iv (1 : Int32), iv (1 : Int32)] [(.int (1 : Int32)), (.int (1 : Int32))])) _
        refine XS.icmpNo X2557.here hx rfl (hb hby at_168) rfl (XT.ii_ne_f (by decide)) ?_
        refine XS.iconst X2557.here hx rfl (hb hby at_171) ?_
        refine XS.goto X2557.here hx rfl (pc0 := 172) (pc' := 176) rfl (hb hby at_172) (by decide) (by decide) ?_
        refine XS.istore X2557.here hx rfl (hb hby at_176) rfl (l' := #[iv p0, iv p1, iv p2, iv p3, iv (2 : Int32), iv ln, rv r_2229, rv r_2232, iv s0, rv r_2239, rv r_2244, iv s1, rv r_2253, rv r_2260, iv s2, rv b2272, iv (1 : Int32), iv (1 : Int32)]) rfl ?_
        refine XS.iload X2557.here hx rfl (hb hby at_178) rfl ?_
        refine XS.iconst X2557.here hx rfl (hb hby at_180) ?_
        refine XS.icmpNo X2557.here hx rfl (hb hby at_181) rfl (XT.ii_lt_f (by decide)) ?_
        refine XS.aload X2557.here hx rfl (hb hby at_184) rfl rfl ?_
        show Steps p.tables e below (T2557.setTop (mkF m 186 #[iv p0, iv p1, iv p2, iv p3, iv (2 : Int32), iv ln, rv r_2229, rv r_2232, iv s0, rv r_2239, rv r_2244, iv s1, rv r_2253, rv r_2260, iv s2, rv b2272, iv (1 : Int32), iv (1 : Int32)] [(.ref b2272)])) _
        refine XS.aload X2557.here hx rfl (hb hby at_186) rfl rfl ?_
        refine XS.aload X2557.here hx rfl (hb hby at_188) rfl rfl ?_
        exact kt
      obtain ⟨cq2560, kq2560, q2560a, q2560b, q2560c⟩ := isOf hZ e2557 J2548_0
      obtain ⟨_, _, ⟨T2560, L2560, k2560, n2560⟩, -, X2560, ⟨Lc2560, hQ2560, l2560, y2560, z2560⟩, st2560⟩ := X2557.virtualBack hx (y := (⟨"com/example/homethread/homethread/cli/ScenarioReport", "expectLine", "(Ljava/lang/String;Ljava/lang/String;)V"⟩ : MethodName)) (z := (⟨"com/example/homethread/homethread/cli/ScenarioReport", "expectLine", "(Ljava/lang/String;Ljava/lang/String;)V"⟩ : MethodName)) hown (mvT hZ (W 89 rfl)) (mvT hZ (W 90 rfl)) (notFace_of_selects (args := #[]) (mvT hZ (W 92 rfl))) (mvT hZ (W 92 rfl)) (mvT hZ (W 91 rfl)) (by decide) (backOf (W := 0) (rm_line1 l Z a0 hw [] b2272 r_2239 r_2244 cz ad kd b2446_2279 (((0 : Int32) + (1 : Int32))) ((1 : Int32)) ((l2 &&& (2 : Int32))) ((own_b ((p1 &&& (255 : Int32)) ^^^ (own_x0 p1)))) ((own_b ((((p1.toUInt32 >>> ((8 : Int32) &&& 31).toUInt32).toInt32) &&& (255 : Int32)) ^^^ (own_x1 p1)))) ((l2 &&& (1 : Int32))) ((own_b (p1 &&& (255 : Int32)))) ((own_b (((p1.toUInt32 >>> ((8 : Int32) &&& 31).toUInt32).toInt32) &&& (255 : Int32)))) na_2548 kna_2548 ((.ref r_2232)) h2548 n0 O2548 G0 G1 G2 G3 g_b2272 g_b2446_2279 g_na_2548 J2548_0 J2548_1 F2552 J2548_3 J2548_4 J2548_5 J2548_6 J2548_7 J2548_8 J2548_9 qz (fun q => ne_r_2239_r_2244 q.symm) (Or.inr rfl) ne_b2272_b2446_2279 ne_b2272_na_2548 ne_b2446_2279_na_2548 h2260 XF2550 F2265 F2264 zF_b2272 zF_b2446_2279 zF_na_2548) hZ (W 93 rfl) (W 51 rfl) (by decide) (by decide)) q2560a q2560c (g := (mkF m 190 #[iv p0, iv p1, iv p2, iv p3, iv (2 : Int32), iv ln, rv r_2229, rv r_2232, iv s0, rv r_2239, rv r_2244, iv s1, rv r_2253, rv r_2260, iv s2, rv b2272, iv (1 : Int32), iv (1 : Int32)] [(.ref r_2244), (.ref r_2239), (.ref b2272)])) rfl (by rw [hml]; rfl) (Steps.refl _) (argsL := [(.ref r_2239), (.ref r_2244)]) (rest := []) (lenOf pd_53 rfl) rfl (by show 2 * 0 + _ ≤ _; exact Nat.le_of_eq rfl) (hb hby at_190) (fun _ _ => ⟨rfl, e2557, (by decide : 21 + 0 ≤ _), (by decide : 63 + 0 ≤ _)⟩)
      dsimp only [Pt.U, Pt.locs, Pt.cells, Pt.slots] at X2560 l2560 y2560 z2560 st2560 hQ2560
      subst l2560 y2560 z2560
      obtain ⟨rfl, M2560, Kc2560, O2560, J2560_0, J2560_1, J2560_2, J2560_3, J2560_4, J2560_5, J2560_6, J2560_7, J2560_8, J2560_9⟩ := hQ2560
      obtain ⟨h2560, e2560⟩ : ∃ z, T2560.heap = z := ⟨_, rfl⟩
      rw [e2560] at Kc2560 O2560 J2560_0 J2560_1 J2560_2 J2560_3 J2560_4 J2560_5 J2560_6 J2560_7 J2560_8
      have N2560 := Fr.app N2557 M2560
      have K2560 : Keep h0 h2560 [] := K2548.trans Kc2560 (own_all3 (Or.inr sz_b2272) (Or.inr sz_b2446_2279) (Or.inr sz_na_2548))
      have pre2561 : ∀ t, Steps p.tables e below (T2560.setTop (mkF m 193 #[iv p0, iv p1, iv p2, iv p3, iv (2 : Int32), iv ln, rv r_2229, rv r_2232, iv s0, rv r_2239, rv r_2244, iv s1, rv r_2253, rv r_2260, iv s2, rv b2272, iv (1 : Int32), iv (1 : Int32)] [])) t → Steps p.tables e below (s₁.setTop (entryFrame m #[(.int p0), (.int p1), (.int p2), (.int p3)] maxLocals)) t := fun t kt => pre2559 _ (st2560.trans kt)
      have XF2562 : Ext h2260 h2560 := own_ext_keep XF2550 Kc2560 (own_all3 zF_b2272 zF_b2446_2279 zF_na_2548)
      rcases own_sync p1 l2 with ⟨hs2563a, hs2563b⟩ | ⟨hs2563a, hs2563b⟩
      · rw [← hs1] at hs2563a
        have F2564 : Fld Z h2560 b2272 "com/example/homethread/homethread/cli/ScenarioReport" "differs" "Z" (.int (1 : Int32)) := own_fldcast J2560_2 (own_dif0 hs2563b)
        have pre2565 : ∀ t, Steps p.tables e below (T2560.setTop (mkF m 217 #[iv p0, iv p1, iv p2, iv p3, iv (2 : Int32), iv ln, rv r_2229, rv r_2232, iv s0, rv r_2239, rv r_2244, iv s1, rv r_2253, rv r_2260, iv s2, rv b2272, iv (1 : Int32), iv (1 : Int32)] [(.ref b2272)])) t → Steps p.tables e below (s₁.setTop (entryFrame m #[(.int p0), (.int p1), (.int p2), (.int p3)] maxLocals)) t := fun t kt => by
          refine pre2561 _ ?_
          show Steps p.tables e below (T2560.setTop (mkF m 193 #[iv p0, iv p1, iv p2, iv p3, iv (2 : Int32), iv ln, rv r_2229, rv r_2232, iv s0, rv r_2239, rv r_2244, iv s1, rv r_2253, rv r_2260, iv s2, rv b2272, iv (1 : Int32), iv (1 : Int32)] [])) _
          refine XS.iload X2560.here hx rfl (hb hby at_193) rfl ?_
          refine XS.ifYes X2560.here hx rfl (pc0 := 195) (pc' := 203) rfl (hb hby at_195) rfl (XT.i0_ne_t (by decide)) (by decide) (by decide) ?_
          refine XS.iconst X2560.here hx rfl (hb hby at_203) ?_
          refine XS.goto X2560.here hx rfl (pc0 := 204) (pc' := 208) rfl (hb hby at_204) (by decide) (by decide) ?_
          refine XS.istore X2560.here hx rfl (hb hby at_208) rfl (l' := #[iv p0, iv p1, iv p2, iv p3, iv (2 : Int32), iv ln, rv r_2229, rv r_2232, iv s0, rv r_2239, rv r_2244, iv s1, rv r_2253, rv r_2260, iv s2, rv b2272, iv (1 : Int32), iv (1 : Int32)]) rfl ?_
          refine XS.iload X2560.here hx rfl (hb hby at_210) rfl ?_
          refine XS.ifNo X2560.here hx rfl (hb hby at_212) rfl (XT.i0_eq_f (by decide)) ?_
          refine XS.aload X2560.here hx rfl (hb hby at_215) rfl rfl ?_
          exact kt
        obtain ⟨cq2566, kq2566, q2566a, q2566b, q2566c⟩ := isOf hZ e2560 J2560_0
        obtain ⟨_, _, ⟨T2566, L2566, k2566, n2566⟩, -, X2566, ⟨Lc2566, hQ2566, l2566, y2566, z2566⟩, st2566⟩ := X2560.virtualBack hx (y := (⟨"com/example/homethread/homethread/cli/ScenarioReport", "exitStatus", "()I"⟩ : MethodName)) (z := (⟨"com/example/homethread/homethread/cli/ScenarioReport", "exitStatus", "()I"⟩ : MethodName)) hown (mvT hZ (W 82 rfl)) (mvT hZ (W 83 rfl)) (notFace_of_selects (args := #[]) (mvT hZ (W 85 rfl))) (mvT hZ (W 85 rfl)) (mvT hZ (W 84 rfl)) (by decide) (backOf (W := 0) (rm_exitStatus17_1 l Z a0 hw [] b2272 h2560 n0 O2560 F2564) hZ (W 86 rfl) (W 51 rfl) (by decide) (by decide)) q2566a q2566c (g := (mkF m 217 #[iv p0, iv p1, iv p2, iv p3, iv (2 : Int32), iv ln, rv r_2229, rv r_2232, iv s0, rv r_2239, rv r_2244, iv s1, rv r_2253, rv r_2260, iv s2, rv b2272, iv (1 : Int32), iv (1 : Int32)] [(.ref b2272)])) rfl (by rw [hml]; rfl) (Steps.refl _) (argsL := []) (rest := []) (lenOf pd_50 rfl) rfl (by show 2 * 0 + _ ≤ _; exact Nat.le_of_eq rfl) (hb hby at_217) (fun _ _ => ⟨rfl, e2560, (by decide : 21 + 0 ≤ _), (by decide : 63 + 0 ≤ _)⟩)
        dsimp only [Pt.U, Pt.locs, Pt.cells, Pt.slots] at X2566 l2566 y2566 z2566 st2566 hQ2566
        subst l2566 y2566 z2566
        obtain ⟨rfl, M2566, e2566⟩ := hQ2566
        have N2566 := Fr.app N2560 M2566
        have pre2567 : ∀ t, Steps p.tables e below (T2566.setTop (mkF m 220 #[iv p0, iv p1, iv p2, iv p3, iv (2 : Int32), iv ln, rv r_2229, rv r_2232, iv s0, rv r_2239, rv r_2244, iv s1, rv r_2253, rv r_2260, iv s2, rv b2272, iv (1 : Int32), iv (1 : Int32)] [(.int (1 : Int32))])) t → Steps p.tables e below (s₁.setTop (entryFrame m #[(.int p0), (.int p1), (.int p2), (.int p3)] maxLocals)) t := fun t kt => pre2565 _ (st2566.trans kt)
        have pre2568 : ∀ t, Steps p.tables e below (T2566.setTop (mkF m 222 #[iv p0, iv p1, iv p2, iv p3, iv (2 : Int32), iv ln, rv r_2229, rv r_2232, iv s0, rv r_2239, rv r_2244, iv s1, rv r_2253, rv r_2260, iv s2, rv b2272, iv (1 : Int32), iv (1 : Int32)] [(.int (1 : Int32)), (.int (1 : Int32))])) t → Steps p.tables e below (s₁.setTop (entryFrame m #[(.int p0), (.int p1), (.int p2), (.int p3)] maxLocals)) t := fun t kt => by
          refine pre2567 _ ?_
          show Steps p.tables e below (T2566.setTop (mkF m 220 #[iv p0, iv p1, iv p2, iv p3, iv (2 : Int32), iv ln, rv r_2229, rv r_2232, iv s0, rv r_2239, rv r_2244, iv s1, rv r_2253, rv r_2260, iv s2, rv b2272, iv (1 : Int32), iv (1 : Int32)] [(.int (1 : Int32))])) _
          refine XS.iload X2566.here hx rfl (hb hby at_220) rfl ?_
          exact kt
        obtain ⟨_, _, ⟨T2569, L2569, k2569, n2569⟩, -, X2569, ⟨Lc2569, hQ2569, l2569, y2569, z2569⟩, st2569⟩ := Jvm.LawKit.callS X2566 hx (y := (⟨"com/example/homethread/homethread/cli/ScenarioReportExitStatusPinLaw", "want", "(Z)I"⟩ : MethodName)) hown (mvT hZ (W 139 rfl)) (mvT hZ (W 140 rfl)) (mvT hZ (W 2 rfl)) (mvT hZ (W 141 rfl)) (by decide) (backOf (W := 1) (rm_want26_1 l Z a0 hw [] h2560 n0 O2560) hZ (W 141 rfl) (W 2 rfl) (by decide) (by decide)) (g := (mkF m 222 #[iv p0, iv p1, iv p2, iv p3, iv (2 : Int32), iv ln, rv r_2229, rv r_2232, iv s0, rv r_2239, rv r_2244, iv s1, rv r_2253, rv r_2260, iv s2, rv b2272, iv (1 : Int32), iv (1 : Int32)] [(.int (1 : Int32)), (.int (1 : Int32))])) rfl (by rw [hml]; rfl) (argsL := [(.int (1 : Int32))]) (rest := [(.int (1 : Int32))]) (lenOf pd_52 rfl) rfl (by show 2 * 0 + _ ≤ _; exact Nat.le_of_eq rfl) (hb hby at_222) (fun _ _ => ⟨rfl, e2566, (by decide : 21 + 0 ≤ _), (by decide : 63 + 0 ≤ _)⟩)
        dsimp only [Pt.U, Pt.locs, Pt.cells, Pt.slots] at X2569 l2569 y2569 z2569 st2569 hQ2569
        subst l2569 y2569 z2569
        obtain ⟨rfl, M2569, e2569⟩ := hQ2569
        have N2569 := Fr.app N2566 M2569
        have pre2570 : ∀ t, Steps p.tables e below (T2569.setTop (mkF m 225 #[iv p0, iv p1, iv p2, iv p3, iv (2 : Int32), iv ln, rv r_2229, rv r_2232, iv s0, rv r_2239, rv r_2244, iv s1, rv r_2253, rv r_2260, iv s2, rv b2272, iv (1 : Int32), iv (1 : Int32)] [(.int (1 : Int32)), (.int (1 : Int32))])) t → Steps p.tables e below (s₁.setTop (entryFrame m #[(.int p0), (.int p1), (.int p2), (.int p3)] maxLocals)) t := fun t kt => pre2568 _ (st2569 _ kt)
        have pre2571 : ∀ t, Steps p.tables e below (T2569.setTop (mkF m 299 #[iv p0, iv p1, iv p2, iv p3, iv (2 : Int32), iv ln, rv r_2229, rv r_2232, iv s0, rv r_2239, rv r_2244, iv s1, rv r_2253, rv r_2260, iv s2, rv b2272, iv (1 : Int32), iv (1 : Int32)] [(.ref b2272)])) t → Steps p.tables e below (s₁.setTop (entryFrame m #[(.int p0), (.int p1), (.int p2), (.int p3)] maxLocals)) t := fun t kt => by
          refine pre2570 _ ?_
          show Steps p.tables e below (T2569.setTop (mkF m 225 #[iv p0, iv p1, iv p2, iv p3, iv (2 : Int32), iv ln, rv r_2229, rv r_2232, iv s0, rv r_2239, rv r_2244, iv s1, rv r_2253, rv r_2260, iv s2, rv b2272, iv (1 : Int32), iv (1 : Int32)] [(.int (1 : Int32)), (.int (1 : Int32))])) _
          refine XS.icmpNo X2569.here hx rfl (hb hby at_225) rfl (XT.ii_ne_f (by decide)) ?_
          refine XS.iconst X2569.here hx rfl (hb hby at_228) ?_
          refine XS.goto X2569.here hx rfl (pc0 := 229) (pc' := 233) rfl (hb hby at_229) (by decide) (by decide) ?_
          refine XS.istore X2569.here hx rfl (hb hby at_233) rfl (l' := #[iv p0, iv p1, iv p2, iv p3, iv (2 : Int32), iv ln, rv r_2229, rv r_2232, iv s0, rv r_2239, rv r_2244, iv s1, rv r_2253, rv r_2260, iv s2, rv b2272, iv (1 : Int32), iv (1 : Int32)]) rfl ?_
          refine XS.iload X2569.here hx rfl (hb hby at_235) rfl ?_
          refine XS.iconst X2569.here hx rfl (hb hby at_237) ?_
          refine XS.icmpYes X2569.here hx rfl (pc0 := 238) (pc' := 292) rfl (hb hby at_238) rfl (XT.ii_lt_t (by decide)) (by decide) (by decide) ?_
          refine XS.iload X2569.here hx rfl (hb hby at_292) rfl ?_
          show Steps p.tables e below (T2569.setTop (mkF m 294 #[iv p0, iv p1, iv p2, iv p3, iv (2 : Int32), iv ln, rv r_2229, rv r_2232, iv s0, rv r_2239, rv r_2244, iv s1, rv r_2253, rv r_2260, iv s2, rv b2272, iv (1 : Int32), iv (1 : Int32)] [(.int (1 : Int32))])) _
          refine XS.ifNo X2569.here hx rfl (hb hby at_294) rfl (XT.i0_eq_f (by decide)) ?_
          refine XS.aload X2569.here hx rfl (hb hby at_297) rfl rfl ?_
          exact kt
        obtain ⟨cq2572, kq2572, q2572a, q2572b, q2572c⟩ := isOf hZ e2569 J2560_0
        obtain ⟨_, _, ⟨T2572, L2572, k2572, n2572⟩, -, X2572, ⟨Lc2572, hQ2572, l2572, y2572, z2572⟩, st2572⟩ := X2569.virtualBack hx (y := (⟨"com/example/homethread/homethread/cli/ScenarioReport", "exitStatus", "()I"⟩ : MethodName)) (z := (⟨"com/example/homethread/homethread/cli/ScenarioReport", "exitStatus", "()I"⟩ : MethodName)) hown (mvT hZ (W 82 rfl)) (mvT hZ (W 83 rfl)) (notFace_of_selects (args := #[]) (mvT hZ (W 85 rfl))) (mvT hZ (W 85 rfl)) (mvT hZ (W 84 rfl)) (by decide) (backOf (W := 0) (rm_exitStatus17_1 l Z a0 hw [] b2272 h2560 n0 O2560 F2564) hZ (W 86 rfl) (W 51 rfl) (by decide) (by decide)) q2572a q2572c (g := (mkF m 299 #[iv p0, iv p1, iv p2, iv p3, iv (2 : Int32), iv ln, rv r_2229, rv r_2232, iv s0, rv r_2239, rv r_2244, iv s1, rv r_2253, rv r_2260, iv s2, rv b2272, iv (1 : Int32), iv (1 : Int32)] [(.ref b2272)])) rfl (by rw [hml]; rfl) (Steps.refl _) (argsL := []) (rest := []) (lenOf pd_50 rfl) rfl (by show 2 * 0 + _ ≤ _; exact Nat.le_of_eq rfl) (hb hby at_299) (fun _ _ => ⟨rfl, e2569, (by decide : 21 + 0 ≤ _), (by decide : 63 + 0 ≤ _)⟩)
        dsimp only [Pt.U, Pt.locs, Pt.cells, Pt.slots] at X2572 l2572 y2572 z2572 st2572 hQ2572
        subst l2572 y2572 z2572
        obtain ⟨rfl, M2572, e2572⟩ := hQ2572
        have N2572 := Fr.app N2569 M2572
        have pre2573 : ∀ t, Steps p.tables e below (T2572.setTop (mkF m 302 #[iv p0, iv p1, iv p2, iv p3, iv (2 : Int32), iv ln, rv r_2229, rv r_2232, iv s0, rv r_2239, rv r_2244, iv s1, rv r_2253, rv r_2260, iv s2, rv b2272, iv (1 : Int32), iv (1 : Int32)] [(.int (1 : Int32))])) t → Steps p.tables e below (s₁.setTop (entryFrame m #[(.int p0), (.int p1), (.int p2), (.int p3)] maxLocals)) t := fun t kt => pre2571 _ (st2572.trans kt)
        have pre2574 : ∀ t, Steps p.tables e below (T2572.setTop (mkF m 304 #[iv p0, iv p1, iv p2, iv p3, iv (2 : Int32), iv ln, rv r_2229, rv r_2232, iv s0, rv r_2239, rv r_2244, iv s1, rv r_2253, rv r_2260, iv s2, rv b2272, iv (1 : Int32), iv (1 : Int32)] [(.int (1 : Int32)), (.int (1 : Int32))])) t → Steps p.tables e below (s₁.setTop (entryFrame m #[(.int p0), (.int p1), (.int p2), (.int p3)] maxLocals)) t := fun t kt => by
          refine pre2573 _ ?_
          show Steps p.tables e below (T2572.setTop (mkF m 302 #[iv p0, iv p1, iv p2, iv p3, iv (2 : Int32), iv ln, rv r_2229, rv r_2232, iv s0, rv r_2239, rv r_2244, iv s1, rv r_2253, rv r_2260, iv s2, rv b2272, iv (1 : Int32), iv (1 : Int32)] [(.int (1 : Int32))])) _
          refine XS.iload X2572.here hx rfl (hb hby at_302) rfl ?_
          exact kt
        obtain ⟨_, _, ⟨T2575, L2575, k2575, n2575⟩, -, X2575, ⟨Lc2575, hQ2575, l2575, y2575, z2575⟩, st2575⟩ := Jvm.LawKit.callS X2572 hx (y := (⟨"com/example/homethread/homethread/cli/ScenarioReportExitStatusPinLaw", "want", "(Z)I"⟩ : MethodName)) hown (mvT hZ (W 139 rfl)) (mvT hZ (W 140 rfl)) (mvT hZ (W 2 rfl)) (mvT hZ (W 141 rfl)) (by decide) (backOf (W := 1) (rm_want26_1 l Z a0 hw [] h2560 n0 O2560) hZ (W 141 rfl) (W 2 rfl) (by decide) (by decide)) (g := (mkF m 304 #[iv p0, iv p1, iv p2, iv p3, iv (2 : Int32), iv ln, rv r_2229, rv r_2232, iv s0, rv r_2239, rv r_2244, iv s1, rv r_2253, rv r_2260, iv s2, rv b2272, iv (1 : Int32), iv (1 : Int32)] [(.int (1 : Int32)), (.int (1 : Int32))])) rfl (by rw [hml]; rfl) (argsL := [(.int (1 : Int32))]) (rest := [(.int (1 : Int32))]) (lenOf pd_52 rfl) rfl (by show 2 * 0 + _ ≤ _; exact Nat.le_of_eq rfl) (hb hby at_304) (fun _ _ => ⟨rfl, e2572, (by decide : 21 + 0 ≤ _), (by decide : 63 + 0 ≤ _)⟩)
        dsimp only [Pt.U, Pt.locs, Pt.cells, Pt.slots] at X2575 l2575 y2575 z2575 st2575 hQ2575
        subst l2575 y2575 z2575
        obtain ⟨rfl, M2575, e2575⟩ := hQ2575
        have N2575 := Fr.app N2572 M2575
        have pre2576 : ∀ t, Steps p.tables e below (T2575.setTop (mkF m 307 #[iv p0, iv p1, iv p2, iv p3, iv (2 : Int32), iv ln, rv r_2229, rv r_2232, iv s0, rv r_2239, rv r_2244, iv s1, rv r_2253, rv r_2260, iv s2, rv b2272, iv (1 : Int32), iv (1 : Int32)] [(.int (1 : Int32)), (.int (1 : Int32))])) t → Steps p.tables e below (s₁.setTop (entryFrame m #[(.int p0), (.int p1), (.int p2), (.int p3)] maxLocals)) t := fun t kt => pre2574 _ (st2575 _ kt)
        have pre2577 : ∀ t, Steps p.tables e below (T2575.setTop (mkF m 319 #[iv p0, iv p1, iv p2, iv p3, iv (2 : Int32), iv ln, rv r_2229, rv r_2232, iv s0, rv r_2239, rv r_2244, iv s1, rv r_2253, rv r_2260, iv s2, rv b2272, iv (1 : Int32), iv (1 : Int32)] [(.int (1 : Int32))])) t → Steps p.tables e below (s₁.setTop (entryFrame m #[(.int p0), (.int p1), (.int p2), (.int p3)] maxLocals)) t := fun t kt => by
          refine pre2576 _ ?_
          show Steps p.tables e below (T2575.setTop (mkF m 307 #[iv p0, iv p1, iv p2, iv p3, iv (2 : Int32), iv ln, rv r_2229, rv r_2232, iv s0, rv r_2239, rv r_2244, iv s1, rv r_2253, rv r_2260, iv s2, rv b2272, iv (1 : Int32), iv (1 : Int32)] [(.int (1 : Int32)), (.int (1 : Int32))])) _
          refine XS.icmpNo X2575.here hx rfl (hb hby at_307) rfl (XT.ii_ne_f (by decide)) ?_
          refine XS.iconst X2575.here hx rfl (hb hby at_310) ?_
          refine XS.goto X2575.here hx rfl (pc0 := 311) (pc' := 315) rfl (hb hby at_311) (by decide) (by decide) ?_
          refine XS.istore X2575.here hx rfl (hb hby at_315) rfl (l' := #[iv p0, iv p1, iv p2, iv p3, iv (2 : Int32), iv ln, rv r_2229, rv r_2232, iv s0, rv r_2239, rv r_2244, iv s1, rv r_2253, rv r_2260, iv s2, rv b2272, iv (1 : Int32), iv (1 : Int32)]) rfl ?_
          refine XS.iload X2575.here hx rfl (hb hby at_317) rfl ?_
          exact kt
        obtain ⟨fs, hr, hrun, hended, hW, hsame⟩ := X2575.leave (v := some (.int (1 : Int32))) (fun h => by rw [Bd.returns] at h; cases h)
        refine ⟨_, _, pre2577 _ (retN X2575 hx (t := .boolean) Bd.returns (by simp) (hb hby at_319) hr), hrun, hended, _, _, rfl, ?_, ⟨_, rfl⟩, hW, hsame.mono (by decide) (by decide)⟩
        show Q_law Z p0 p1 p2 p3 cz ad kd h0 n0 _ T2575.heap _
        rw [e2575]
        exact ⟨rfl, N2575⟩
      · rw [← hs1] at hs2563a
        have F2578 : Fld Z h2560 b2272 "com/example/homethread/homethread/cli/ScenarioReport" "differs" "Z" (.int (1 : Int32)) := own_fldcast J2560_2 (own_dif1 hs2563b)
        have pre2579 : ∀ t, Steps p.tables e below (T2560.setTop (mkF m 217 #[iv p0, iv p1, iv p2, iv p3, iv (2 : Int32), iv ln, rv r_2229, rv r_2232, iv s0, rv r_2239, rv r_2244, iv s1, rv r_2253, rv r_2260, iv s2, rv b2272, iv (1 : Int32), iv (1 : Int32)] [(.ref b2272)])) t → Steps p.tables e below (s₁.setTop (entryFrame m #[(.int p0), (.int p1), (.int p2), (.int p3)] maxLocals)) t := fun t kt => by
          refine pre2561 _ ?_
          show Steps p.tables e below (T2560.setTop (mkF m 193 #[iv p0, iv p1, iv p2, iv p3, iv (2 : Int32), iv ln, rv r_2229, rv r_2232, iv s0, rv r_2239, rv r_2244, iv s1, rv r_2253, rv r_2260, iv s2, rv b2272, iv (1 : Int32), iv (1 : Int32)] [])) _
          refine XS.iload X2560.here hx rfl (hb hby at_193) rfl ?_
          refine XS.ifYes X2560.here hx rfl (pc0 := 195) (pc' := 203) rfl (hb hby at_195) rfl (XT.i0_ne_t (by decide)) (by decide) (by decide) ?_
          refine XS.iconst X2560.here hx rfl (hb hby at_203) ?_
          refine XS.goto X2560.here hx rfl (pc0 := 204) (pc' := 208) rfl (hb hby at_204) (by decide) (by decide) ?_
          refine XS.istore X2560.here hx rfl (hb hby at_208) rfl (l' := #[iv p0, iv p1, iv p2, iv p3, iv (2 : Int32), iv ln, rv r_2229, rv r_2232, iv s0, rv r_2239, rv r_2244, iv s1, rv r_2253, rv r_2260, iv s2, rv b2272, iv (1 : Int32), iv (1 : Int32)]) rfl ?_
          refine XS.iload X2560.here hx rfl (hb hby at_210) rfl ?_
          refine XS.ifNo X2560.here hx rfl (hb hby at_212) rfl (XT.i0_eq_f (by decide)) ?_
          refine XS.aload X2560.here hx rfl (hb hby at_215) rfl rfl ?_
          exact kt
        obtain ⟨cq2580, kq2580, q2580a, q2580b, q2580c⟩ := isOf hZ e2560 J2560_0
        obtain ⟨_, _, ⟨T2580, L2580, k2580, n2580⟩, -, X2580, ⟨Lc2580, hQ2580, l2580, y2580, z2580⟩, st2580⟩ := X2560.virtualBack hx (y := (⟨"com/example/homethread/homethread/cli/ScenarioReport", "exitStatus", "()I"⟩ : MethodName)) (z := (⟨"com/example/homethread/homethread/cli/ScenarioReport", "exitStatus", "()I"⟩ : MethodName)) hown (mvT hZ (W 82 rfl)) (mvT hZ (W 83 rfl)) (notFace_of_selects (args := #[]) (mvT hZ (W 85 rfl))) (mvT hZ (W 85 rfl)) (mvT hZ (W 84 rfl)) (by decide) (backOf (W := 0) (rm_exitStatus17_1 l Z a0 hw [] b2272 h2560 n0 O2560 F2578) hZ (W 86 rfl) (W 51 rfl) (by decide) (by decide)) q2580a q2580c (g := (mkF m 217 #[iv p0, iv p1, iv p2, iv p3, iv (2 : Int32), iv ln, rv r_2229, rv r_2232, iv s0, rv r_2239, rv r_2244, iv s1, rv r_2253, rv r_2260, iv s2, rv b2272, iv (1 : Int32), iv (1 : Int32)] [(.ref b2272)])) rfl (by rw [hml]; rfl) (Steps.refl _) (argsL := []) (rest := []) (lenOf pd_50 rfl) rfl (by show 2 * 0 + _ ≤ _; exact Nat.le_of_eq rfl) (hb hby at_217) (fun _ _ => ⟨rfl, e2560, (by decide : 21 + 0 ≤ _), (by decide : 63 + 0 ≤ _)⟩)
        dsimp only [Pt.U, Pt.locs, Pt.cells, Pt.slots] at X2580 l2580 y2580 z2580 st2580 hQ2580
        subst l2580 y2580 z2580
        obtain ⟨rfl, M2580, e2580⟩ := hQ2580
        have N2580 := Fr.app N2560 M2580
        have pre2581 : ∀ t, Steps p.tables e below (T2580.setTop (mkF m 220 #[iv p0, iv p1, iv p2, iv p3, iv (2 : Int32), iv ln, rv r_2229, rv r_2232, iv s0, rv r_2239, rv r_2244, iv s1, rv r_2253, rv r_2260, iv s2, rv b2272, iv (1 : Int32), iv (1 : Int32)] [(.int (1 : Int32))])) t → Steps p.tables e below (s₁.setTop (entryFrame m #[(.int p0), (.int p1), (.int p2), (.int p3)] maxLocals)) t := fun t kt => pre2579 _ (st2580.trans kt)
        have pre2582 : ∀ t, Steps p.tables e below (T2580.setTop (mkF m 222 #[iv p0, iv p1, iv p2, iv p3, iv (2 : Int32), iv ln, rv r_2229, rv r_2232, iv s0, rv r_2239, rv r_2244, iv s1, rv r_2253, rv r_2260, iv s2, rv b2272, iv (1 : Int32), iv (1 : Int32)] [(.int (1 : Int32)), (.int (1 : Int32))])) t → Steps p.tables e below (s₁.setTop (entryFrame m #[(.int p0), (.int p1), (.int p2), (.int p3)] maxLocals)) t := fun t kt => by
          refine pre2581 _ ?_
          show Steps p.tables e below (T2580.setTop (mkF m 220 #[iv p0, iv p1, iv p2, iv p3, iv (2 : Int32), iv ln, rv r_2229, rv r_2232, iv s0, rv r_2239, rv r_2244, iv s1, rv r_2253, rv r_2260, iv s2, rv b2272, iv (1 : Int32), iv (1 : Int32)] [(.int (1 : Int32))])) _
          refine XS.iload X2580.here hx rfl (hb hby at_220) rfl ?_
          exact kt
        obtain ⟨_, _, ⟨T2583, L2583, k2583, n2583⟩, -, X2583, ⟨Lc2583, hQ2583, l2583, y2583, z2583⟩, st2583⟩ := Jvm.LawKit.callS X2580 hx (y := (⟨"com/example/homethread/homethread/cli/ScenarioReportExitStatusPinLaw", "want", "(Z)I"⟩ : MethodName)) hown (mvT hZ (W 139 rfl)) (mvT hZ (W 140 rfl)) (mvT hZ (W 2 rfl)) (mvT hZ (W 141 rfl)) (by decide) (backOf (W := 1) (rm_want26_1 l Z a0 hw [] h2560 n0 O2560) hZ (W 141 rfl) (W 2 rfl) (by decide) (by decide)) (g := (mkF m 222 #[iv p0, iv p1, iv p2, iv p3, iv (2 : Int32), iv ln, rv r_2229, rv r_2232, iv s0, rv r_2239, rv r_2244, iv s1, rv r_2253, rv r_2260, iv s2, rv b2272, iv (1 : Int32), iv (1 : Int32)] [(.int (1 : Int32)), (.int (1 : Int32))])) rfl (by rw [hml]; rfl) (argsL := [(.int (1 : Int32))]) (rest := [(.int (1 : Int32))]) (lenOf pd_52 rfl) rfl (by show 2 * 0 + _ ≤ _; exact Nat.le_of_eq rfl) (hb hby at_222) (fun _ _ => ⟨rfl, e2580, (by decide : 21 + 0 ≤ _), (by decide : 63 + 0 ≤ _)⟩)
        dsimp only [Pt.U, Pt.locs, Pt.cells, Pt.slots] at X2583 l2583 y2583 z2583 st2583 hQ2583
        subst l2583 y2583 z2583
        obtain ⟨rfl, M2583, e2583⟩ := hQ2583
        have N2583 := Fr.app N2580 M2583
        have pre2584 : ∀ t, Steps p.tables e below (T2583.setTop (mkF m 225 #[iv p0, iv p1, iv p2, iv p3, iv (2 : Int32), iv ln, rv r_2229, rv r_2232, iv s0, rv r_2239, rv r_2244, iv s1, rv r_2253, rv r_2260, iv s2, rv b2272, iv (1 : Int32), iv (1 : Int32)] [(.int (1 : Int32)), (.int (1 : Int32))])) t → Steps p.tables e below (s₁.setTop (entryFrame m #[(.int p0), (.int p1), (.int p2), (.int p3)] maxLocals)) t := fun t kt => pre2582 _ (st2583 _ kt)
        have pre2585 : ∀ t, Steps p.tables e below (T2583.setTop (mkF m 299 #[iv p0, iv p1, iv p2, iv p3, iv (2 : Int32), iv ln, rv r_2229, rv r_2232, iv s0, rv r_2239, rv r_2244, iv s1, rv r_2253, rv r_2260, iv s2, rv b2272, iv (1 : Int32), iv (1 : Int32)] [(.ref b2272)])) t → Steps p.tables e below (s₁.setTop (entryFrame m #[(.int p0), (.int p1), (.int p2), (.int p3)] maxLocals)) t := fun t kt => by
          refine pre2584 _ ?_
          show Steps p.tables e below (T2583.setTop (mkF m 225 #[iv p0, iv p1, iv p2, iv p3, iv (2 : Int32), iv ln, rv r_2229, rv r_2232, iv s0, rv r_2239, rv r_2244, iv s1, rv r_2253, rv r_2260, iv s2, rv b2272, iv (1 : Int32), iv (1 : Int32)] [(.int (1 : Int32)), (.int (1 : Int32))])) _
          refine XS.icmpNo X2583.here hx rfl (hb hby at_225) rfl (XT.ii_ne_f (by decide)) ?_
          refine XS.iconst X2583.here hx rfl (hb hby at_228) ?_
          refine XS.goto X2583.here hx rfl (pc0 := 229) (pc' := 233) rfl (hb hby at_229) (by decide) (by decide) ?_
          refine XS.istore X2583.here hx rfl (hb hby at_233) rfl (l' := #[iv p0, iv p1, iv p2, iv p3, iv (2 : Int32), iv ln, rv r_2229, rv r_2232, iv s0, rv r_2239, rv r_2244, iv s1, rv r_2253, rv r_2260, iv s2, rv b2272, iv (1 : Int32), iv (1 : Int32)]) rfl ?_
          refine XS.iload X2583.here hx rfl (hb hby at_235) rfl ?_
          refine XS.iconst X2583.here hx rfl (hb hby at_237) ?_
          refine XS.icmpYes X2583.here hx rfl (pc0 := 238) (pc' := 292) rfl (hb hby at_238) rfl (XT.ii_lt_t (by decide)) (by decide) (by decide) ?_
          refine XS.iload X2583.here hx rfl (hb hby at_292) rfl ?_
          show Steps p.tables e below (T2583.setTop (mkF m 294 #[iv p0, iv p1, iv p2, iv p3, iv (2 : Int32), iv ln, rv r_2229, rv r_2232, iv s0, rv r_2239, rv r_2244, iv s1, rv r_2253, rv r_2260, iv s2, rv b2272, iv (1 : Int32), iv (1 : Int32)] [(.int (1 : Int32))])) _
          refine XS.ifNo X2583.here hx rfl (hb hby at_294) rfl (XT.i0_eq_f (by decide)) ?_
          refine XS.aload X2583.here hx rfl (hb hby at_297) rfl rfl ?_
          exact kt
        obtain ⟨cq2586, kq2586, q2586a, q2586b, q2586c⟩ := isOf hZ e2583 J2560_0
        obtain ⟨_, _, ⟨T2586, L2586, k2586, n2586⟩, -, X2586, ⟨Lc2586, hQ2586, l2586, y2586, z2586⟩, st2586⟩ := X2583.virtualBack hx (y := (⟨"com/example/homethread/homethread/cli/ScenarioReport", "exitStatus", "()I"⟩ : MethodName)) (z := (⟨"com/example/homethread/homethread/cli/ScenarioReport", "exitStatus", "()I"⟩ : MethodName)) hown (mvT hZ (W 82 rfl)) (mvT hZ (W 83 rfl)) (notFace_of_selects (args := #[]) (mvT hZ (W 85 rfl))) (mvT hZ (W 85 rfl)) (mvT hZ (W 84 rfl)) (by decide) (backOf (W := 0) (rm_exitStatus17_1 l Z a0 hw [] b2272 h2560 n0 O2560 F2578) hZ (W 86 rfl) (W 51 rfl) (by decide) (by decide)) q2586a q2586c (g := (mkF m 299 #[iv p0, iv p1, iv p2, iv p3, iv (2 : Int32), iv ln, rv r_2229, rv r_2232, iv s0, rv r_2239, rv r_2244, iv s1, rv r_2253, rv r_2260, iv s2, rv b2272, iv (1 : Int32), iv (1 : Int32)] [(.ref b2272)])) rfl (by rw [hml]; rfl) (Steps.refl _) (argsL := []) (rest := []) (lenOf pd_50 rfl) rfl (by show 2 * 0 + _ ≤ _; exact Nat.le_of_eq rfl) (hb hby at_299) (fun _ _ => ⟨rfl, e2583, (by decide : 21 + 0 ≤ _), (by decide : 63 + 0 ≤ _)⟩)
        dsimp only [Pt.U, Pt.locs, Pt.cells, Pt.slots] at X2586 l2586 y2586 z2586 st2586 hQ2586
        subst l2586 y2586 z2586
        obtain ⟨rfl, M2586, e2586⟩ := hQ2586
        have N2586 := Fr.app N2583 M2586
        have pre2587 : ∀ t, Steps p.tables e below (T2586.setTop (mkF m 302 #[iv p0, iv p1, iv p2, iv p3, iv (2 : Int32), iv ln, rv r_2229, rv r_2232, iv s0, rv r_2239, rv r_2244, iv s1, rv r_2253, rv r_2260, iv s2, rv b2272, iv (1 : Int32), iv (1 : Int32)] [(.int (1 : Int32))])) t → Steps p.tables e below (s₁.setTop (entryFrame m #[(.int p0), (.int p1), (.int p2), (.int p3)] maxLocals)) t := fun t kt => pre2585 _ (st2586.trans kt)
        have pre2588 : ∀ t, Steps p.tables e below (T2586.setTop (mkF m 304 #[iv p0, iv p1, iv p2, iv p3, iv (2 : Int32), iv ln, rv r_2229, rv r_2232, iv s0, rv r_2239, rv r_2244, iv s1, rv r_2253, rv r_2260, iv s2, rv b2272, iv (1 : Int32), iv (1 : Int32)] [(.int (1 : Int32)), (.int (1 : Int32))])) t → Steps p.tables e below (s₁.setTop (entryFrame m #[(.int p0), (.int p1), (.int p2), (.int p3)] maxLocals)) t := fun t kt => by
          refine pre2587 _ ?_
          show Steps p.tables e below (T2586.setTop (mkF m 302 #[iv p0, iv p1, iv p2, iv p3, iv (2 : Int32), iv ln, rv r_2229, rv r_2232, iv s0, rv r_2239, rv r_2244, iv s1, rv r_2253, rv r_2260, iv s2, rv b2272, iv (1 : Int32), iv (1 : Int32)] [(.int (1 : Int32))])) _
          refine XS.iload X2586.here hx rfl (hb hby at_302) rfl ?_
          exact kt
        obtain ⟨_, _, ⟨T2589, L2589, k2589, n2589⟩, -, X2589, ⟨Lc2589, hQ2589, l2589, y2589, z2589⟩, st2589⟩ := Jvm.LawKit.callS X2586 hx (y := (⟨"com/example/homethread/homethread/cli/ScenarioReportExitStatusPinLaw", "want", "(Z)I"⟩ : MethodName)) hown (mvT hZ (W 139 rfl)) (mvT hZ (W 140 rfl)) (mvT hZ (W 2 rfl)) (mvT hZ (W 141 rfl)) (by decide) (backOf (W := 1) (rm_want26_1 l Z a0 hw [] h2560 n0 O2560) hZ (W 141 rfl) (W 2 rfl) (by decide) (by decide)) (g := (mkF m 304 #[iv p0, iv p1, iv p2, iv p3, iv (2 : Int32), iv ln, rv r_2229, rv r_2232, iv s0, rv r_2239, rv r_2244, iv s1, rv r_2253, rv r_2260, iv s2, rv b2272, iv (1 : Int32), iv (1 : Int32)] [(.int (1 : Int32)), (.int (1 : Int32))])) rfl (by rw [hml]; rfl) (argsL := [(.int (1 : Int32))]) (rest := [(.int (1 : Int32))]) (lenOf pd_52 rfl) rfl (by show 2 * 0 + _ ≤ _; exact Nat.le_of_eq rfl) (hb hby at_304) (fun _ _ => ⟨rfl, e2586, (by decide : 21 + 0 ≤ _), (by decide : 63 + 0 ≤ _)⟩)
        dsimp only [Pt.U, Pt.locs, Pt.cells, Pt.slots] at X2589 l2589 y2589 z2589 st2589 hQ2589
        subst l2589 y2589 z2589
        obtain ⟨rfl, M2589, e2589⟩ := hQ2589
        have N2589 := Fr.app N2586 M2589
        have pre2590 : ∀ t, Steps p.tables e below (T2589.setTop (mkF m 307 #[iv p0, iv p1, iv p2, iv p3, iv (2 : Int32), iv ln, rv r_2229, rv r_2232, iv s0, rv r_2239, rv r_2244, iv s1, rv r_2253, rv r_2260, iv s2, rv b2272, iv (1 : Int32), iv (1 : Int32)] [(.int (1 : Int32)), (.int (1 : Int32))])) t → Steps p.tables e below (s₁.setTop (entryFrame m #[(.int p0), (.int p1), (.int p2), (.int p3)] maxLocals)) t := fun t kt => pre2588 _ (st2589 _ kt)
        have pre2591 : ∀ t, Steps p.tables e below (T2589.setTop (mkF m 319 #[iv p0, iv p1, iv p2, iv p3, iv (2 : Int32), iv ln, rv r_2229, rv r_2232, iv s0, rv r_2239, rv r_2244, iv s1, rv r_2253, rv r_2260, iv s2, rv b2272, iv (1 : Int32), iv (1 : Int32)] [(.int (1 : Int32))])) t → Steps p.tables e below (s₁.setTop (entryFrame m #[(.int p0), (.int p1), (.int p2), (.int p3)] maxLocals)) t := fun t kt => by
          refine pre2590 _ ?_
          show Steps p.tables e below (T2589.setTop (mkF m 307 #[iv p0, iv p1, iv p2, iv p3, iv (2 : Int32), iv ln, rv r_2229, rv r_2232, iv s0, rv r_2239, rv r_2244, iv s1, rv r_2253, rv r_2260, iv s2, rv b2272, iv (1 : Int32), iv (1 : Int32)] [(.int (1 : Int32)), (.int (1 : Int32))])) _
          refine XS.icmpNo X2589.here hx rfl (hb hby at_307) rfl (XT.ii_ne_f (by decide)) ?_
          refine XS.iconst X2589.here hx rfl (hb hby at_310) ?_
          refine XS.goto X2589.here hx rfl (pc0 := 311) (pc' := 315) rfl (hb hby at_311) (by decide) (by decide) ?_
          refine XS.istore X2589.here hx rfl (hb hby at_315) rfl (l' := #[iv p0, iv p1, iv p2, iv p3, iv (2 : Int32), iv ln, rv r_2229, rv r_2232, iv s0, rv r_2239, rv r_2244, iv s1, rv r_2253, rv r_2260, iv s2, rv b2272, iv (1 : Int32), iv (1 : Int32)]) rfl ?_
          refine XS.iload X2589.here hx rfl (hb hby at_317) rfl ?_
          exact kt
        obtain ⟨fs, hr, hrun, hended, hW, hsame⟩ := X2589.leave (v := some (.int (1 : Int32))) (fun h => by rw [Bd.returns] at h; cases h)
        refine ⟨_, _, pre2591 _ (retN X2589 hx (t := .boolean) Bd.returns (by simp) (hb hby at_319) hr), hrun, hended, _, _, rfl, ?_, ⟨_, rfl⟩, hW, hsame.mono (by decide) (by decide)⟩
        show Q_law Z p0 p1 p2 p3 cz ad kd h0 n0 _ T2589.heap _
        rw [e2589]
        exact ⟨rfl, N2589⟩
    · rw [← hs0] at hs2551a
      have F2592 : Fld Z h2548 b2272 "com/example/homethread/homethread/cli/ScenarioReport" "differs" "Z" (.int (0 : Int32)) := own_fldcast J2548_2 (own_dif1 hs2551b)
      have pre2593 : ∀ t, Steps p.tables e below (T2548.setTop (mkF m 160 #[iv p0, iv p1, iv p2, iv p3, iv (2 : Int32), iv ln, rv r_2229, rv r_2232, iv s0, rv r_2239, rv r_2244, iv s1, rv r_2253, rv r_2260, iv s2, rv b2272, iv (1 : Int32), iv (0 : Int32)] [(.ref b2272)])) t → Steps p.tables e below (s₁.setTop (entryFrame m #[(.int p0), (.int p1), (.int p2), (.int p3)] maxLocals)) t := fun t kt => by
        refine pre2549 _ ?_
        show Steps p.tables e below (T2548.setTop (mkF m 136 #[iv p0, iv p1, iv p2, iv p3, iv (2 : Int32), iv ln, rv r_2229, rv r_2232, iv s0, rv r_2239, rv r_2244, iv s1, rv r_2253, rv r_2260, iv s2, rv b2272, iv (1 : Int32), iv (0 : Int32)] [])) _
        refine XS.iload X2548.here hx rfl (hb hby at_136) rfl ?_
        refine XS.ifNo X2548.here hx rfl (hb hby at_138) rfl (XT.i0_ne_f (by decide)) ?_
        refine XS.iload X2548.here hx rfl (hb hby at_141) rfl ?_
        refine XS.ifYes X2548.here hx rfl (pc0 := 143) (pc' := 150) rfl (hb hby at_143) rfl (XT.i0_ne_t hs2551a) (by decide) (by decide) ?_
        refine XS.iconst X2548.here hx rfl (hb hby at_150) ?_
        refine XS.istore X2548.here hx rfl (hb hby at_151) rfl (l' := #[iv p0, iv p1, iv p2, iv p3, iv (2 : Int32), iv ln, rv r_2229, rv r_2232, iv s0, rv r_2239, rv r_2244, iv s1, rv r_2253, rv r_2260, iv s2, rv b2272, iv (1 : Int32), iv (0 : Int32)]) rfl ?_
        refine XS.iload X2548.here hx rfl (hb hby at_153) rfl ?_
        refine XS.ifNo X2548.here hx rfl (hb hby at_155) rfl (XT.i0_eq_f (by decide)) ?_
        show Steps p.tables e below (T2548.setTop (mkF m 158 #[iv p0, iv p1, iv p2, iv p3, iv (2 : Int32), iv ln, rv r_2229, rv r_2232, iv s0, rv r_2239, rv r_2244, iv s1, rv r_2253, rv r_2260, iv s2, rv b2272, iv (1 : Int32), iv (0 : Int32)] [])) _
        refine XS.aload X2548.here hx rfl (hb hby at_158) rfl rfl ?_
        exact kt
      obtain ⟨cq2594, kq2594, q2594a, q2594b, q2594c⟩ := isOf hZ e2548 J2548_0
      obtain ⟨_, _, ⟨T2594, L2594, k2594, n2594⟩, -, X2594, ⟨Lc2594, hQ2594, l2594, y2594, z2594⟩, st2594⟩ := X2548.virtualBack hx (y := (⟨"com/example/homethread/homethread/cli/ScenarioReport", "exitStatus", "()I"⟩ : MethodName)) (z := (⟨"com/example/homethread/homethread/cli/ScenarioReport", "exitStatus", "()I"⟩ : MethodName)) hown (mvT hZ (W 82 rfl)) (mvT hZ (W 83 rfl)) (notFace_of_selects (args := #[]) (mvT hZ (W 85 rfl))) (mvT hZ (W 85 rfl)) (mvT hZ (W 84 rfl)) (by decide) (backOf (W := 0) (rm_exitStatus17_0 l Z a0 hw [] b2272 h2548 n0 O2548 F2592) hZ (W 86 rfl) (W 51 rfl) (by decide) (by decide)) q2594a q2594c (g := (mkF m 160 #[iv p0, iv p1, iv p2, iv p3, iv (2 : Int32), iv ln, rv r_2229, rv r_2232, iv s0, rv r_2239, rv r_2244, iv s1, rv r_2253, rv r_2260, iv s2, rv b2272, iv (1 : Int32), iv (0 : Int32)] [(.ref b2272)])) rfl (by rw [hml]; rfl) (Steps.refl _) (argsL := []) (rest := []) (lenOf pd_50 rfl) rfl (by show 2 * 0 + _ ≤ _; exact Nat.le_of_eq rfl) (hb hby at_160) (fun _ _ => ⟨rfl, e2548, (by decide : 21 + 0 ≤ _), (by decide : 63 + 0 ≤ _)⟩)
      dsimp only [Pt.U, Pt.locs, Pt.cells, Pt.slots] at X2594 l2594 y2594 z2594 st2594 hQ2594
      subst l2594 y2594 z2594
      obtain ⟨rfl, M2594, e2594⟩ := hQ2594
      have N2594 := Fr.app N2548 M2594
      have pre2595 : ∀ t, Steps p.tables e below (T2594.setTop (mkF m 163 #[iv p0, iv p1, iv p2, iv p3, iv (2 : Int32), iv ln, rv r_2229, rv r_2232, iv s0, rv r_2239, rv r_2244, iv s1, rv r_2253, rv r_2260, iv s2, rv b2272, iv (1 : Int32), iv (0 : Int32)] [(.int (0 : Int32))])) t → Steps p.tables e below (s₁.setTop (entryFrame m #[(.int p0), (.int p1), (.int p2), (.int p3)] maxLocals)) t := fun t kt => pre2593 _ (st2594.trans kt)
      have pre2596 : ∀ t, Steps p.tables e below (T2594.setTop (mkF m 165 #[iv p0, iv p1, iv p2, iv p3, iv (2 : Int32), iv ln, rv r_2229, rv r_2232, iv s0, rv r_2239, rv r_2244, iv s1, rv r_2253, rv r_2260, iv s2, rv b2272, iv (1 : Int32), iv (0 : Int32)] [(.int (0 : Int32)), (.int (0 : Int32))])) t → Steps p.tables e below (s₁.setTop (entryFrame m #[(.int p0), (.int p1), (.int p2), (.int p3)] maxLocals)) t := fun t kt => by
        refine pre2595 _ ?_
        show Steps p.tables e below (T2594.setTop (mkF m 163 #[iv p0, iv p1, iv p2, iv p3, iv (2 : Int32), iv ln, rv r_2229, rv r_2232, iv s0, rv r_2239, rv r_2244, iv s1, rv r_2253, rv r_2260, iv s2, rv b2272, iv (1 : Int32), iv (0 : Int32)] [(.int (0 : Int32))])) _
        refine XS.iload X2594.here hx rfl (hb hby at_163) rfl ?_
        exact kt
      obtain ⟨_, _, ⟨T2597, L2597, k2597, n2597⟩, -, X2597, ⟨Lc2597, hQ2597, l2597, y2597, z2597⟩, st2597⟩ := Jvm.LawKit.callS X2594 hx (y := (⟨"com/example/homethread/homethread/cli/ScenarioReportExitStatusPinLaw", "want", "(Z)I"⟩ : MethodName)) hown (mvT hZ (W 139 rfl)) (mvT hZ (W 140 rfl)) (mvT hZ (W 2 rfl)) (mvT hZ (W 141 rfl)) (by decide) (backOf (W := 1) (rm_want26_0 l Z a0 hw [] h2548 n0 O2548) hZ (W 141 rfl) (W 2 rfl) (by decide) (by decide)) (g := (mkF m 165 #[iv p0, iv p1, iv p2, iv p3, iv (2 : Int32), iv ln, rv r_2229, rv r_2232, iv s0, rv r_2239, rv r_2244, iv s1, rv r_2253, rv r_2260, iv s2, rv b2272, iv (1 : Int32), iv (0 : Int32)] [(.int (0 : Int32)), (.int (0 : Int32))])) rfl (by rw [hml]; rfl) (argsL := [(.int (0 : Int32))]) (rest := [(.int (0 : Int32))]) (lenOf pd_52 rfl) rfl (by show 2 * 0 + _ ≤ _; exact Nat.le_of_eq rfl) (hb hby at_165) (fun _ _ => ⟨rfl, e2594, (by decide : 21 + 0 ≤ _), (by decide : 63 + 0 ≤ _)⟩)
      dsimp only [Pt.U, Pt.locs, Pt.cells, Pt.slots] at X2597 l2597 y2597 z2597 st2597 hQ2597
      subst l2597 y2597 z2597
      obtain ⟨rfl, M2597, e2597⟩ := hQ2597
      have N2597 := Fr.app N2594 M2597
      have pre2598 : ∀ t, Steps p.tables e below (T2597.setTop (mkF m 168 #[iv p0, iv p1, iv p2, iv p3, iv (2 : Int32), iv ln, rv r_2229, rv r_2232, iv s0, rv r_2239, rv r_2244, iv s1, rv r_2253, rv r_2260, iv s2, rv b2272, iv (1 : Int32), iv (0 : Int32)] [(.int (0 : Int32)), (.int (0 : Int32))])) t → Steps p.tables e below (s₁.setTop (entryFrame m #[(.int p0), (.int p1), (.int p2), (.int p3)] maxLocals)) t := fun t kt => pre2596 _ (st2597 _ kt)
      have pre2599 : ∀ t, Steps p.tables e below (T2597.setTop (mkF m 190 #[iv p0, iv p1, iv p2, iv p3, iv (2 : Int32), iv ln, rv r_2229, rv r_2232, iv s0, rv r_2239, rv r_2244, iv s1, rv r_2253, rv r_2260, iv s2, rv b2272, iv (1 : Int32), iv (0 : Int32)] [(.ref r_2244), (.ref r_2239), (.ref b2272)])) t → Steps p.tables e below (s₁.setTop (entryFrame m #[(.int p0), (.int p1), (.int p2), (.int p3)] maxLocals)) t := fun t kt => by
        refine pre2598 _ ?_
        show Steps p.tables e below (T2597.setTop (mkF m 168 #[iv p0, iv p1, iv p2, iv p3, iv (2 : Int32), iv ln, rv r_2229, rv r_2232, iv s0, rv r_2239, rv r_2244, iv s1, rv r_2253, rv r_2260, iv s2, rv b2272, iv (1 : Int32), iv (0 : Int32)] [(.int (0 : Int32)), (.int (0 : Int32))])) _
        refine XS.icmpNo X2597.here hx rfl (hb hby at_168) rfl (XT.ii_ne_f (by decide)) ?_
        refine XS.iconst X2597.here hx rfl (hb hby at_171) ?_
        refine XS.goto X2597.here hx rfl (pc0 := 172) (pc' := 176) rfl (hb hby at_172) (by decide) (by decide) ?_
        refine XS.istore X2597.here hx rfl (hb hby at_176) rfl (l' := #[iv p0, iv p1, iv p2, iv p3, iv (2 : Int32), iv ln, rv r_2229, rv r_2232, iv s0, rv r_2239, rv r_2244, iv s1, rv r_2253, rv r_2260, iv s2, rv b2272, iv (1 : Int32), iv (0 : Int32)]) rfl ?_
        refine XS.iload X2597.here hx rfl (hb hby at_178) rfl ?_
        refine XS.iconst X2597.here hx rfl (hb hby at_180) ?_
        refine XS.icmpNo X2597.here hx rfl (hb hby at_181) rfl (XT.ii_lt_f (by decide)) ?_
        refine XS.aload X2597.here hx rfl (hb hby at_184) rfl rfl ?_
        show Steps p.tables e below (T2597.setTop (mkF m 186 #[iv p0, iv p1, iv p2, iv p3, iv (2 : Int32), iv ln, rv r_2229, rv r_2232, iv s0, rv r_2239, rv r_2244, iv s1, rv r_2253, rv r_2260, iv s2, rv b2272, iv (1 : Int32), iv (0 : Int32)] [(.ref b2272)])) _
        refine XS.aload X2597.here hx rfl (hb hby at_186) rfl rfl ?_
        refine XS.aload X2597.here hx rfl (hb hby at_188) rfl rfl ?_
        exact kt
      obtain ⟨cq2600, kq2600, q2600a, q2600b, q2600c⟩ := isOf hZ e2597 J2548_0
      obtain ⟨_, _, ⟨T2600, L2600, k2600, n2600⟩, -, X2600, ⟨Lc2600, hQ2600, l2600, y2600, z2600⟩, st2600⟩ := X2597.virtualBack hx (y := (⟨"com/example/homethread/homethread/cli/ScenarioReport", "expectLine", "(Ljava/lang/String;Ljava/lang/String;)V"⟩ : MethodName)) (z := (⟨"com/example/homethread/homethread/cli/ScenarioReport", "expectLine", "(Ljava/lang/String;Ljava/lang/String;)V"⟩ : MethodName)) hown (mvT hZ (W 89 rfl)) (mvT hZ (W 90 rfl)) (notFace_of_selects (args := #[]) (mvT hZ (W 92 rfl))) (mvT hZ (W 92 rfl)) (mvT hZ (W 91 rfl)) (by decide) (backOf (W := 0) (rm_line1 l Z a0 hw [] b2272 r_2239 r_2244 cz ad kd b2446_2279 (((0 : Int32) + (1 : Int32))) ((0 : Int32)) ((l2 &&& (2 : Int32))) ((own_b ((p1 &&& (255 : Int32)) ^^^ (own_x0 p1)))) ((own_b ((((p1.toUInt32 >>> ((8 : Int32) &&& 31).toUInt32).toInt32) &&& (255 : Int32)) ^^^ (own_x1 p1)))) ((l2 &&& (1 : Int32))) ((own_b (p1 &&& (255 : Int32)))) ((own_b (((p1.toUInt32 >>> ((8 : Int32) &&& 31).toUInt32).toInt32) &&& (255 : Int32)))) na_2548 kna_2548 ((.ref r_2232)) h2548 n0 O2548 G0 G1 G2 G3 g_b2272 g_b2446_2279 g_na_2548 J2548_0 J2548_1 F2592 J2548_3 J2548_4 J2548_5 J2548_6 J2548_7 J2548_8 J2548_9 qz (fun q => ne_r_2239_r_2244 q.symm) (Or.inl rfl) ne_b2272_b2446_2279 ne_b2272_na_2548 ne_b2446_2279_na_2548 h2260 XF2550 F2265 F2264 zF_b2272 zF_b2446_2279 zF_na_2548) hZ (W 93 rfl) (W 51 rfl) (by decide) (by decide)) q2600a q2600c (g := (mkF m 190 #[iv p0, iv p1, iv p2, iv p3, iv (2 : Int32), iv ln, rv r_2229, rv r_2232, iv s0, rv r_2239, rv r_2244, iv s1, rv r_2253, rv r_2260, iv s2, rv b2272, iv (1 : Int32), iv (0 : Int32)] [(.ref r_2244), (.ref r_2239), (.ref b2272)])) rfl (by rw [hml]; rfl) (Steps.refl _) (argsL := [(.ref r_2239), (.ref r_2244)]) (rest := []) (lenOf pd_53 rfl) rfl (by show 2 * 0 + _ ≤ _; exact Nat.le_of_eq rfl) (hb hby at_190) (fun _ _ => ⟨rfl, e2597, (by decide : 21 + 0 ≤ _), (by decide : 63 + 0 ≤ _)⟩)
      dsimp only [Pt.U, Pt.locs, Pt.cells, Pt.slots] at X2600 l2600 y2600 z2600 st2600 hQ2600
      subst l2600 y2600 z2600
      obtain ⟨rfl, M2600, Kc2600, O2600, J2600_0, J2600_1, J2600_2, J2600_3, J2600_4, J2600_5, J2600_6, J2600_7, J2600_8, J2600_9⟩ := hQ2600
      obtain ⟨h2600, e2600⟩ : ∃ z, T2600.heap = z := ⟨_, rfl⟩
      rw [e2600] at Kc2600 O2600 J2600_0 J2600_1 J2600_2 J2600_3 J2600_4 J2600_5 J2600_6 J2600_7 J2600_8
      have N2600 := Fr.app N2597 M2600
      have K2600 : Keep h0 h2600 [] := K2548.trans Kc2600 (own_all3 (Or.inr sz_b2272) (Or.inr sz_b2446_2279) (Or.inr sz_na_2548))
      have pre2601 : ∀ t, Steps p.tables e below (T2600.setTop (mkF m 193 #[iv p0, iv p1, iv p2, iv p3, iv (2 : Int32), iv ln, rv r_2229, rv r_2232, iv s0, rv r_2239, rv r_2244, iv s1, rv r_2253, rv r_2260, iv s2, rv b2272, iv (1 : Int32), iv (0 : Int32)] [])) t → Steps p.tables e below (s₁.setTop (entryFrame m #[(.int p0), (.int p1), (.int p2), (.int p3)] maxLocals)) t := fun t kt => pre2599 _ (st2600.trans kt)
      have XF2602 : Ext h2260 h2600 := own_ext_keep XF2550 Kc2600 (own_all3 zF_b2272 zF_b2446_2279 zF_na_2548)
      rcases own_sync p1 l2 with ⟨hs2603a, hs2603b⟩ | ⟨hs2603a, hs2603b⟩
      · rw [← hs1] at hs2603a
        have F2604 : Fld Z h2600 b2272 "com/example/homethread/homethread/cli/ScenarioReport" "differs" "Z" (.int (1 : Int32)) := own_fldcast J2600_2 (own_dif0 hs2603b)
        have pre2605 : ∀ t, Steps p.tables e below (T2600.setTop (mkF m 217 #[iv p0, iv p1, iv p2, iv p3, iv (2 : Int32), iv ln, rv r_2229, rv r_2232, iv s0, rv r_2239, rv r_2244, iv s1, rv r_2253, rv r_2260, iv s2, rv b2272, iv (1 : Int32), iv (1 : Int32)] [(.ref b2272)])) t → Steps p.tables e below (s₁.setTop (entryFrame m #[(.int p0), (.int p1), (.int p2), (.int p3)] maxLocals)) t := fun t kt => by
          refine pre2601 _ ?_
          show Steps p.tables e below (T2600.setTop (mkF m 193 #[iv p0, iv p1, iv p2, iv p3, iv (2 : Int32), iv ln, rv r_2229, rv r_2232, iv s0, rv r_2239, rv r_2244, iv s1, rv r_2253, rv r_2260, iv s2, rv b2272, iv (1 : Int32), iv (0 : Int32)] [])) _
          refine XS.iload X2600.here hx rfl (hb hby at_193) rfl ?_
          refine XS.ifNo X2600.here hx rfl (hb hby at_195) rfl (XT.i0_ne_f (by decide)) ?_
          refine XS.iload X2600.here hx rfl (hb hby at_198) rfl ?_
          refine XS.ifNo X2600.here hx rfl (hb hby at_200) rfl (XT.i0_ne_f hs2603a) ?_
          refine XS.iconst X2600.here hx rfl (hb hby at_203) ?_
          refine XS.goto X2600.here hx rfl (pc0 := 204) (pc' := 208) rfl (hb hby at_204) (by decide) (by decide) ?_
          refine XS.istore X2600.here hx rfl (hb hby at_208) rfl (l' := #[iv p0, iv p1, iv p2, iv p3, iv (2 : Int32), iv ln, rv r_2229, rv r_2232, iv s0, rv r_2239, rv r_2244, iv s1, rv r_2253, rv r_2260, iv s2, rv b2272, iv (1 : Int32), iv (1 : Int32)]) rfl ?_
          refine XS.iload X2600.here hx rfl (hb hby at_210) rfl ?_
          show Steps p.tables e below (T2600.setTop (mkF m 212 #[iv p0, iv p1, iv p2, iv p3, iv (2 : Int32), iv ln, rv r_2229, rv r_2232, iv s0, rv r_2239, rv r_2244, iv s1, rv r_2253, rv r_2260, iv s2, rv b2272, iv (1 : Int32), iv (1 : Int32)] [(.int (1 : Int32))])) _
          refine XS.ifNo X2600.here hx rfl (hb hby at_212) rfl (XT.i0_eq_f (by decide)) ?_
          refine XS.aload X2600.here hx rfl (hb hby at_215) rfl rfl ?_
          exact kt
        obtain ⟨cq2606, kq2606, q2606a, q2606b, q2606c⟩ := isOf hZ e2600 J2600_0
        obtain ⟨_, _, ⟨T2606, L2606, k2606, n2606⟩, -, X2606, ⟨Lc2606, hQ2606, l2606, y2606, z2606⟩, st2606⟩ := X2600.virtualBack hx (y := (⟨"com/example/homethread/homethread/cli/ScenarioReport", "exitStatus", "()I"⟩ : MethodName)) (z := (⟨"com/example/homethread/homethread/cli/ScenarioReport", "exitStatus", "()I"⟩ : MethodName)) hown (mvT hZ (W 82 rfl)) (mvT hZ (W 83 rfl)) (notFace_of_selects (args := #[]) (mvT hZ (W 85 rfl))) (mvT hZ (W 85 rfl)) (mvT hZ (W 84 rfl)) (by decide) (backOf (W := 0) (rm_exitStatus17_1 l Z a0 hw [] b2272 h2600 n0 O2600 F2604) hZ (W 86 rfl) (W 51 rfl) (by decide) (by decide)) q2606a q2606c (g := (mkF m 217 #[iv p0, iv p1, iv p2, iv p3, iv (2 : Int32), iv ln, rv r_2229, rv r_2232, iv s0, rv r_2239, rv r_2244, iv s1, rv r_2253, rv r_2260, iv s2, rv b2272, iv (1 : Int32), iv (1 : Int32)] [(.ref b2272)])) rfl (by rw [hml]; rfl) (Steps.refl _) (argsL := []) (rest := []) (lenOf pd_50 rfl) rfl (by show 2 * 0 + _ ≤ _; exact Nat.le_of_eq rfl) (hb hby at_217) (fun _ _ => ⟨rfl, e2600, (by decide : 21 + 0 ≤ _), (by decide : 63 + 0 ≤ _)⟩)
        dsimp only [Pt.U, Pt.locs, Pt.cells, Pt.slots] at X2606 l2606 y2606 z2606 st2606 hQ2606
        subst l2606 y2606 z2606
        obtain ⟨rfl, M2606, e2606⟩ := hQ2606
        have N2606 := Fr.app N2600 M2606
        have pre2607 : ∀ t, Steps p.tables e below (T2606.setTop (mkF m 220 #[iv p0, iv p1, iv p2, iv p3, iv (2 : Int32), iv ln, rv r_2229, rv r_2232, iv s0, rv r_2239, rv r_2244, iv s1, rv r_2253, rv r_2260, iv s2, rv b2272, iv (1 : Int32), iv (1 : Int32)] [(.int (1 : Int32))])) t → Steps p.tables e below (s₁.setTop (entryFrame m #[(.int p0), (.int p1), (.int p2), (.int p3)] maxLocals)) t := fun t kt => pre2605 _ (st2606.trans kt)
        have pre2608 : ∀ t, Steps p.tables e below (T2606.setTop (mkF m 222 #[iv p0, iv p1, iv p2, iv p3, iv (2 : Int32), iv ln, rv r_2229, rv r_2232, iv s0, rv r_2239, rv r_2244, iv s1, rv r_2253, rv r_2260, iv s2, rv b2272, iv (1 : Int32), iv (1 : Int32)] [(.int (1 : Int32)), (.int (1 : Int32))])) t → Steps p.tables e below (s₁.setTop (entryFrame m #[(.int p0), (.int p1), (.int p2), (.int p3)] maxLocals)) t := fun t kt => by
          refine pre2607 _ ?_
          show Steps p.tables e below (T2606.setTop (mkF m 220 #[iv p0, iv p1, iv p2, iv p3, iv (2 : Int32), iv ln, rv r_2229, rv r_2232, iv s0, rv r_2239, rv r_2244, iv s1, rv r_2253, rv r_2260, iv s2, rv b2272, iv (1 : Int32), iv (1 : Int32)] [(.int (1 : Int32))])) _
          refine XS.iload X2606.here hx rfl (hb hby at_220) rfl ?_
          exact kt
        obtain ⟨_, _, ⟨T2609, L2609, k2609, n2609⟩, -, X2609, ⟨Lc2609, hQ2609, l2609, y2609, z2609⟩, st2609⟩ := Jvm.LawKit.callS X2606 hx (y := (⟨"com/example/homethread/homethread/cli/ScenarioReportExitStatusPinLaw", "want", "(Z)I"⟩ : MethodName)) hown (mvT hZ (W 139 rfl)) (mvT hZ (W 140 rfl)) (mvT hZ (W 2 rfl)) (mvT hZ (W 141 rfl)) (by decide) (backOf (W := 1) (rm_want26_1 l Z a0 hw [] h2600 n0 O2600) hZ (W 141 rfl) (W 2 rfl) (by decide) (by decide)) (g := (mkF m 222 #[iv p0, iv p1, iv p2, iv p3, iv (2 : Int32), iv ln, rv r_2229, rv r_2232, iv s0, rv r_2239, rv r_2244, iv s1, rv r_2253, rv r_2260, iv s2, rv b2272, iv (1 : Int32), iv (1 : Int32)] [(.int (1 : Int32)), (.int (1 : Int32))])) rfl (by rw [hml]; rfl) (argsL := [(.int (1 : Int32))]) (rest := [(.int (1 : Int32))]) (lenOf pd_52 rfl) rfl (by show 2 * 0 + _ ≤ _; exact Nat.le_of_eq rfl) (hb hby at_222) (fun _ _ => ⟨rfl, e2606, (by decide : 21 + 0 ≤ _), (by decide : 63 + 0 ≤ _)⟩)
        dsimp only [Pt.U, Pt.locs, Pt.cells, Pt.slots] at X2609 l2609 y2609 z2609 st2609 hQ2609
        subst l2609 y2609 z2609
        obtain ⟨rfl, M2609, e2609⟩ := hQ2609
        have N2609 := Fr.app N2606 M2609
        have pre2610 : ∀ t, Steps p.tables e below (T2609.setTop (mkF m 225 #[iv p0, iv p1, iv p2, iv p3, iv (2 : Int32), iv ln, rv r_2229, rv r_2232, iv s0, rv r_2239, rv r_2244, iv s1, rv r_2253, rv r_2260, iv s2, rv b2272, iv (1 : Int32), iv (1 : Int32)] [(.int (1 : Int32)), (.int (1 : Int32))])) t → Steps p.tables e below (s₁.setTop (entryFrame m #[(.int p0), (.int p1), (.int p2), (.int p3)] maxLocals)) t := fun t kt => pre2608 _ (st2609 _ kt)
        have pre2611 : ∀ t, Steps p.tables e below (T2609.setTop (mkF m 299 #[iv p0, iv p1, iv p2, iv p3, iv (2 : Int32), iv ln, rv r_2229, rv r_2232, iv s0, rv r_2239, rv r_2244, iv s1, rv r_2253, rv r_2260, iv s2, rv b2272, iv (1 : Int32), iv (1 : Int32)] [(.ref b2272)])) t → Steps p.tables e below (s₁.setTop (entryFrame m #[(.int p0), (.int p1), (.int p2), (.int p3)] maxLocals)) t := fun t kt => by
          refine pre2610 _ ?_
          show Steps p.tables e below (T2609.setTop (mkF m 225 #[iv p0, iv p1, iv p2, iv p3, iv (2 : Int32), iv ln, rv r_2229, rv r_2232, iv s0, rv r_2239, rv r_2244, iv s1, rv r_2253, rv r_2260, iv s2, rv b2272, iv (1 : Int32), iv (1 : Int32)] [(.int (1 : Int32)), (.int (1 : Int32))])) _
          refine XS.icmpNo X2609.here hx rfl (hb hby at_225) rfl (XT.ii_ne_f (by decide)) ?_
          refine XS.iconst X2609.here hx rfl (hb hby at_228) ?_
          refine XS.goto X2609.here hx rfl (pc0 := 229) (pc' := 233) rfl (hb hby at_229) (by decide) (by decide) ?_
          refine XS.istore X2609.here hx rfl (hb hby at_233) rfl (l' := #[iv p0, iv p1, iv p2, iv p3, iv (2 : Int32), iv ln, rv r_2229, rv r_2232, iv s0, rv r_2239, rv r_2244, iv s1, rv r_2253, rv r_2260, iv s2, rv b2272, iv (1 : Int32), iv (1 : Int32)]) rfl ?_
          refine XS.iload X2609.here hx rfl (hb hby at_235) rfl ?_
          refine XS.iconst X2609.here hx rfl (hb hby at_237) ?_
          refine XS.icmpYes X2609.here hx rfl (pc0 := 238) (pc' := 292) rfl (hb hby at_238) rfl (XT.ii_lt_t (by decide)) (by decide) (by decide) ?_
          refine XS.iload X2609.here hx rfl (hb hby at_292) rfl ?_
          show Steps p.tables e below (T2609.setTop (mkF m 294 #[iv p0, iv p1, iv p2, iv p3, iv (2 : Int32), iv ln, rv r_2229, rv r_2232, iv s0, rv r_2239, rv r_2244, iv s1, rv r_2253, rv r_2260, iv s2, rv b2272, iv (1 : Int32), iv (1 : Int32)] [(.int (1 : Int32))])) _
          refine XS.ifNo X2609.here hx rfl (hb hby at_294) rfl (XT.i0_eq_f (by decide)) ?_
          refine XS.aload X2609.here hx rfl (hb hby at_297) rfl rfl ?_
          exact kt
        obtain ⟨cq2612, kq2612, q2612a, q2612b, q2612c⟩ := isOf hZ e2609 J2600_0
        obtain ⟨_, _, ⟨T2612, L2612, k2612, n2612⟩, -, X2612, ⟨Lc2612, hQ2612, l2612, y2612, z2612⟩, st2612⟩ := X2609.virtualBack hx (y := (⟨"com/example/homethread/homethread/cli/ScenarioReport", "exitStatus", "()I"⟩ : MethodName)) (z := (⟨"com/example/homethread/homethread/cli/ScenarioReport", "exitStatus", "()I"⟩ : MethodName)) hown (mvT hZ (W 82 rfl)) (mvT hZ (W 83 rfl)) (notFace_of_selects (args := #[]) (mvT hZ (W 85 rfl))) (mvT hZ (W 85 rfl)) (mvT hZ (W 84 rfl)) (by decide) (backOf (W := 0) (rm_exitStatus17_1 l Z a0 hw [] b2272 h2600 n0 O2600 F2604) hZ (W 86 rfl) (W 51 rfl) (by decide) (by decide)) q2612a q2612c (g := (mkF m 299 #[iv p0, iv p1, iv p2, iv p3, iv (2 : Int32), iv ln, rv r_2229, rv r_2232, iv s0, rv r_2239, rv r_2244, iv s1, rv r_2253, rv r_2260, iv s2, rv b2272, iv (1 : Int32), iv (1 : Int32)] [(.ref b2272)])) rfl (by rw [hml]; rfl) (Steps.refl _) (argsL := []) (rest := []) (lenOf pd_50 rfl) rfl (by show 2 * 0 + _ ≤ _; exact Nat.le_of_eq rfl) (hb hby at_299) (fun _ _ => ⟨rfl, e2609, (by decide : 21 + 0 ≤ _), (by decide : 63 + 0 ≤ _)⟩)
        dsimp only [Pt.U, Pt.locs, Pt.cells, Pt.slots] at X2612 l2612 y2612 z2612 st2612 hQ2612
        subst l2612 y2612 z2612
        obtain ⟨rfl, M2612, e2612⟩ := hQ2612
        have N2612 := Fr.app N2609 M2612
        have pre2613 : ∀ t, Steps p.tables e below (T2612.setTop (mkF m 302 #[iv p0, iv p1, iv p2, iv p3, iv (2 : Int32), iv ln, rv r_2229, rv r_2232, iv s0, rv r_2239, rv r_2244, iv s1, rv r_2253, rv r_2260, iv s2, rv b2272, iv (1 : Int32), iv (1 : Int32)] [(.int (1 : Int32))])) t → Steps p.tables e below (s₁.setTop (entryFrame m #[(.int p0), (.int p1), (.int p2), (.int p3)] maxLocals)) t := fun t kt => pre2611 _ (st2612.trans kt)
        have pre2614 : ∀ t, Steps p.tables e below (T2612.setTop (mkF m 304 #[iv p0, iv p1, iv p2, iv p3, iv (2 : Int32), iv ln, rv r_2229, rv r_2232, iv s0, rv r_2239, rv r_2244, iv s1, rv r_2253, rv r_2260, iv s2, rv b2272, iv (1 : Int32), iv (1 : Int32)] [(.int (1 : Int32)), (.int (1 : Int32))])) t → Steps p.tables e below (s₁.setTop (entryFrame m #[(.int p0), (.int p1), (.int p2), (.int p3)] maxLocals)) t := fun t kt => by
          refine pre2613 _ ?_
          show Steps p.tables e below (T2612.setTop (mkF m 302 #[iv p0, iv p1, iv p2, iv p3, iv (2 : Int32), iv ln, rv r_2229, rv r_2232, iv s0, rv r_2239, rv r_2244, iv s1, rv r_2253, rv r_2260, iv s2, rv b2272, iv (1 : Int32), iv (1 : Int32)] [(.int (1 : Int32))])) _
          refine XS.iload X2612.here hx rfl (hb hby at_302) rfl ?_
          exact kt
        obtain ⟨_, _, ⟨T2615, L2615, k2615, n2615⟩, -, X2615, ⟨Lc2615, hQ2615, l2615, y2615, z2615⟩, st2615⟩ := Jvm.LawKit.callS X2612 hx (y := (⟨"com/example/homethread/homethread/cli/ScenarioReportExitStatusPinLaw", "want", "(Z)I"⟩ : MethodName)) hown (mvT hZ (W 139 rfl)) (mvT hZ (W 140 rfl)) (mvT hZ (W 2 rfl)) (mvT hZ (W 141 rfl)) (by decide) (backOf (W := 1) (rm_want26_1 l Z a0 hw [] h2600 n0 O2600) hZ (W 141 rfl) (W 2 rfl) (by decide) (by decide)) (g := (mkF m 304 #[iv p0, iv p1, iv p2, iv p3, iv (2 : Int32), iv ln, rv r_2229, rv r_2232, iv s0, rv r_2239, rv r_2244, iv s1, rv r_2253, rv r_2260, iv s2, rv b2272, iv (1 : Int32), iv (1 : Int32)] [(.int (1 : Int32)), (.int (1 : Int32))])) rfl (by rw [hml]; rfl) (argsL := [(.int (1 : Int32))]) (rest := [(.int (1 : Int32))]) (lenOf pd_52 rfl) rfl (by show 2 * 0 + _ ≤ _; exact Nat.le_of_eq rfl) (hb hby at_304) (fun _ _ => ⟨rfl, e2612, (by decide : 21 + 0 ≤ _), (by decide : 63 + 0 ≤ _)⟩)
        dsimp only [Pt.U, Pt.locs, Pt.cells, Pt.slots] at X2615 l2615 y2615 z2615 st2615 hQ2615
        subst l2615 y2615 z2615
        obtain ⟨rfl, M2615, e2615⟩ := hQ2615
        have N2615 := Fr.app N2612 M2615
        have pre2616 : ∀ t, Steps p.tables e below (T2615.setTop (mkF m 307 #[iv p0, iv p1, iv p2, iv p3, iv (2 : Int32), iv ln, rv r_2229, rv r_2232, iv s0, rv r_2239, rv r_2244, iv s1, rv r_2253, rv r_2260, iv s2, rv b2272, iv (1 : Int32), iv (1 : Int32)] [(.int (1 : Int32)), (.int (1 : Int32))])) t → Steps p.tables e below (s₁.setTop (entryFrame m #[(.int p0), (.int p1), (.int p2), (.int p3)] maxLocals)) t := fun t kt => pre2614 _ (st2615 _ kt)
        have pre2617 : ∀ t, Steps p.tables e below (T2615.setTop (mkF m 319 #[iv p0, iv p1, iv p2, iv p3, iv (2 : Int32), iv ln, rv r_2229, rv r_2232, iv s0, rv r_2239, rv r_2244, iv s1, rv r_2253, rv r_2260, iv s2, rv b2272, iv (1 : Int32), iv (1 : Int32)] [(.int (1 : Int32))])) t → Steps p.tables e below (s₁.setTop (entryFrame m #[(.int p0), (.int p1), (.int p2), (.int p3)] maxLocals)) t := fun t kt => by
          refine pre2616 _ ?_
          show Steps p.tables e below (T2615.setTop (mkF m 307 #[iv p0, iv p1, iv p2, iv p3, iv (2 : Int32), iv ln, rv r_2229, rv r_2232, iv s0, rv r_2239, rv r_2244, iv s1, rv r_2253, rv r_2260, iv s2, rv b2272, iv (1 : Int32), iv (1 : Int32)] [(.int (1 : Int32)), (.int (1 : Int32))])) _
          refine XS.icmpNo X2615.here hx rfl (hb hby at_307) rfl (XT.ii_ne_f (by decide)) ?_
          refine XS.iconst X2615.here hx rfl (hb hby at_310) ?_
          refine XS.goto X2615.here hx rfl (pc0 := 311) (pc' := 315) rfl (hb hby at_311) (by decide) (by decide) ?_
          refine XS.istore X2615.here hx rfl (hb hby at_315) rfl (l' := #[iv p0, iv p1, iv p2, iv p3, iv (2 : Int32), iv ln, rv r_2229, rv r_2232, iv s0, rv r_2239, rv r_2244, iv s1, rv r_2253, rv r_2260, iv s2, rv b2272, iv (1 : Int32), iv (1 : Int32)]) rfl ?_
          refine XS.iload X2615.here hx rfl (hb hby at_317) rfl ?_
          exact kt
        obtain ⟨fs, hr, hrun, hended, hW, hsame⟩ := X2615.leave (v := some (.int (1 : Int32))) (fun h => by rw [Bd.returns] at h; cases h)
        refine ⟨_, _, pre2617 _ (retN X2615 hx (t := .boolean) Bd.returns (by simp) (hb hby at_319) hr), hrun, hended, _, _, rfl, ?_, ⟨_, rfl⟩, hW, hsame.mono (by decide) (by decide)⟩
        show Q_law Z p0 p1 p2 p3 cz ad kd h0 n0 _ T2615.heap _
        rw [e2615]
        exact ⟨rfl, N2615⟩
      · rw [← hs1] at hs2603a
        have F2618 : Fld Z h2600 b2272 "com/example/homethread/homethread/cli/ScenarioReport" "differs" "Z" (.int (0 : Int32)) := own_fldcast J2600_2 (own_dif1 hs2603b)
        have pre2619 : ∀ t, Steps p.tables e below (T2600.setTop (mkF m 217 #[iv p0, iv p1, iv p2, iv p3, iv (2 : Int32), iv ln, rv r_2229, rv r_2232, iv s0, rv r_2239, rv r_2244, iv s1, rv r_2253, rv r_2260, iv s2, rv b2272, iv (1 : Int32), iv (0 : Int32)] [(.ref b2272)])) t → Steps p.tables e below (s₁.setTop (entryFrame m #[(.int p0), (.int p1), (.int p2), (.int p3)] maxLocals)) t := fun t kt => by
          refine pre2601 _ ?_
          show Steps p.tables e below (T2600.setTop (mkF m 193 #[iv p0, iv p1, iv p2, iv p3, iv (2 : Int32), iv ln, rv r_2229, rv r_2232, iv s0, rv r_2239, rv r_2244, iv s1, rv r_2253, rv r_2260, iv s2, rv b2272, iv (1 : Int32), iv (0 : Int32)] [])) _
          refine XS.iload X2600.here hx rfl (hb hby at_193) rfl ?_
          refine XS.ifNo X2600.here hx rfl (hb hby at_195) rfl (XT.i0_ne_f (by decide)) ?_
          refine XS.iload X2600.here hx rfl (hb hby at_198) rfl ?_
          refine XS.ifYes X2600.here hx rfl (pc0 := 200) (pc' := 207) rfl (hb hby at_200) rfl (XT.i0_ne_t hs2603a) (by decide) (by decide) ?_
          refine XS.iconst X2600.here hx rfl (hb hby at_207) ?_
          refine XS.istore X2600.here hx rfl (hb hby at_208) rfl (l' := #[iv p0, iv p1, iv p2, iv p3, iv (2 : Int32), iv ln, rv r_2229, rv r_2232, iv s0, rv r_2239, rv r_2244, iv s1, rv r_2253, rv r_2260, iv s2, rv b2272, iv (1 : Int32), iv (0 : Int32)]) rfl ?_
          refine XS.iload X2600.here hx rfl (hb hby at_210) rfl ?_
          refine XS.ifNo X2600.here hx rfl (hb hby at_212) rfl (XT.i0_eq_f (by decide)) ?_
          show Steps p.tables e below (T2600.setTop (mkF m 215 #[iv p0, iv p1, iv p2, iv p3, iv (2 : Int32), iv ln, rv r_2229, rv r_2232, iv s0, rv r_2239, rv r_2244, iv s1, rv r_2253, rv r_2260, iv s2, rv b2272, iv (1 : Int32), iv (0 : Int32)] [])) _
          refine XS.aload X2600.here hx rfl (hb hby at_215) rfl rfl ?_
          exact kt
        obtain ⟨cq2620, kq2620, q2620a, q2620b, q2620c⟩ := isOf hZ e2600 J2600_0
        obtain ⟨_, _, ⟨T2620, L2620, k2620, n2620⟩, -, X2620, ⟨Lc2620, hQ2620, l2620, y2620, z2620⟩, st2620⟩ := X2600.virtualBack hx (y := (⟨"com/example/homethread/homethread/cli/ScenarioReport", "exitStatus", "()I"⟩ : MethodName)) (z := (⟨"com/example/homethread/homethread/cli/ScenarioReport", "exitStatus", "()I"⟩ : MethodName)) hown (mvT hZ (W 82 rfl)) (mvT hZ (W 83 rfl)) (notFace_of_selects (args := #[]) (mvT hZ (W 85 rfl))) (mvT hZ (W 85 rfl)) (mvT hZ (W 84 rfl)) (by decide) (backOf (W := 0) (rm_exitStatus17_0 l Z a0 hw [] b2272 h2600 n0 O2600 F2618) hZ (W 86 rfl) (W 51 rfl) (by decide) (by decide)) q2620a q2620c (g := (mkF m 217 #[iv p0, iv p1, iv p2, iv p3, iv (2 : Int32), iv ln, rv r_2229, rv r_2232, iv s0, rv r_2239, rv r_2244, iv s1, rv r_2253, rv r_2260, iv s2, rv b2272, iv (1 : Int32), iv (0 : Int32)] [(.ref b2272)])) rfl (by rw [hml]; rfl) (Steps.refl _) (argsL := []) (rest := []) (lenOf pd_50 rfl) rfl (by show 2 * 0 + _ ≤ _; exact Nat.le_of_eq rfl) (hb hby at_217) (fun _ _ => ⟨rfl, e2600, (by decide : 21 + 0 ≤ _), (by decide : 63 + 0 ≤ _)⟩)
        dsimp only [Pt.U, Pt.locs, Pt.cells, Pt.slots] at X2620 l2620 y2620 z2620 st2620 hQ2620
        subst l2620 y2620 z2620
        obtain ⟨rfl, M2620, e2620⟩ := hQ2620
        have N2620 := Fr.app N2600 M2620
        have pre2621 : ∀ t, Steps p.tables e below (T2620.setTop (mkF m 220 #[iv p0, iv p1, iv p2, iv p3, iv (2 : Int32), iv ln, rv r_2229, rv r_2232, iv s0, rv r_2239, rv r_2244, iv s1, rv r_2253, rv r_2260, iv s2, rv b2272, iv (1 : Int32), iv (0 : Int32)] [(.int (0 : Int32))])) t → Steps p.tables e below (s₁.setTop (entryFrame m #[(.int p0), (.int p1), (.int p2), (.int p3)] maxLocals)) t := fun t kt => pre2619 _ (st2620.trans kt)
        have pre2622 : ∀ t, Steps p.tables e below (T2620.setTop (mkF m 222 #[iv p0, iv p1, iv p2, iv p3, iv (2 : Int32), iv ln, rv r_2229, rv r_2232, iv s0, rv r_2239, rv r_2244, iv s1, rv r_2253, rv r_2260, iv s2, rv b2272, iv (1 : Int32), iv (0 : Int32)] [(.int (0 : Int32)), (.int (0 : Int32))])) t → Steps p.tables e below (s₁.setTop (entryFrame m #[(.int p0), (.int p1), (.int p2), (.int p3)] maxLocals)) t := fun t kt => by
          refine pre2621 _ ?_
          show Steps p.tables e below (T2620.setTop (mkF m 220 #[iv p0, iv p1, iv p2, iv p3, iv (2 : Int32), iv ln, rv r_2229, rv r_2232, iv s0, rv r_2239, rv r_2244, iv s1, rv r_2253, rv r_2260, iv s2, rv b2272, iv (1 : Int32), iv (0 : Int32)] [(.int (0 : Int32))])) _
          refine XS.iload X2620.here hx rfl (hb hby at_220) rfl ?_
          exact kt
        obtain ⟨_, _, ⟨T2623, L2623, k2623, n2623⟩, -, X2623, ⟨Lc2623, hQ2623, l2623, y2623, z2623⟩, st2623⟩ := Jvm.LawKit.callS X2620 hx (y := (⟨"com/example/homethread/homethread/cli/ScenarioReportExitStatusPinLaw", "want", "(Z)I"⟩ : MethodName)) hown (mvT hZ (W 139 rfl)) (mvT hZ (W 140 rfl)) (mvT hZ (W 2 rfl)) (mvT hZ (W 141 rfl)) (by decide) (backOf (W := 1) (rm_want26_0 l Z a0 hw [] h2600 n0 O2600) hZ (W 141 rfl) (W 2 rfl) (by decide) (by decide)) (g := (mkF m 222 #[iv p0, iv p1, iv p2, iv p3, iv (2 : Int32), iv ln, rv r_2229, rv r_2232, iv s0, rv r_2239, rv r_2244, iv s1, rv r_2253, rv r_2260, iv s2, rv b2272, iv (1 : Int32), iv (0 : Int32)] [(.int (0 : Int32)), (.int (0 : Int32))])) rfl (by rw [hml]; rfl) (argsL := [(.int (0 : Int32))]) (rest := [(.int (0 : Int32))]) (lenOf pd_52 rfl) rfl (by show 2 * 0 + _ ≤ _; exact Nat.le_of_eq rfl) (hb hby at_222) (fun _ _ => ⟨rfl, e2620, (by decide : 21 + 0 ≤ _), (by decide : 63 + 0 ≤ _)⟩)
        dsimp only [Pt.U, Pt.locs, Pt.cells, Pt.slots] at X2623 l2623 y2623 z2623 st2623 hQ2623
        subst l2623 y2623 z2623
        obtain ⟨rfl, M2623, e2623⟩ := hQ2623
        have N2623 := Fr.app N2620 M2623
        have pre2624 : ∀ t, Steps p.tables e below (T2623.setTop (mkF m 225 #[iv p0, iv p1, iv p2, iv p3, iv (2 : Int32), iv ln, rv r_2229, rv r_2232, iv s0, rv r_2239, rv r_2244, iv s1, rv r_2253, rv r_2260, iv s2, rv b2272, iv (1 : Int32), iv (0 : Int32)] [(.int (0 : Int32)), (.int (0 : Int32))])) t → Steps p.tables e below (s₁.setTop (entryFrame m #[(.int p0), (.int p1), (.int p2), (.int p3)] maxLocals)) t := fun t kt => pre2622 _ (st2623 _ kt)
        have pre2625 : ∀ t, Steps p.tables e below (T2623.setTop (mkF m 299 #[iv p0, iv p1, iv p2, iv p3, iv (2 : Int32), iv ln, rv r_2229, rv r_2232, iv s0, rv r_2239, rv r_2244, iv s1, rv r_2253, rv r_2260, iv s2, rv b2272, iv (1 : Int32), iv (0 : Int32)] [(.ref b2272)])) t → Steps p.tables e below (s₁.setTop (entryFrame m #[(.int p0), (.int p1), (.int p2), (.int p3)] maxLocals)) t := fun t kt => by
          refine pre2624 _ ?_
          show Steps p.tables e below (T2623.setTop (mkF m 225 #[iv p0, iv p1, iv p2, iv p3, iv (2 : Int32), iv ln, rv r_2229, rv r_2232, iv s0, rv r_2239, rv r_2244, iv s1, rv r_2253, rv r_2260, iv s2, rv b2272, iv (1 : Int32), iv (0 : Int32)] [(.int (0 : Int32)), (.int (0 : Int32))])) _
          refine XS.icmpNo X2623.here hx rfl (hb hby at_225) rfl (XT.ii_ne_f (by decide)) ?_
          refine XS.iconst X2623.here hx rfl (hb hby at_228) ?_
          refine XS.goto X2623.here hx rfl (pc0 := 229) (pc' := 233) rfl (hb hby at_229) (by decide) (by decide) ?_
          refine XS.istore X2623.here hx rfl (hb hby at_233) rfl (l' := #[iv p0, iv p1, iv p2, iv p3, iv (2 : Int32), iv ln, rv r_2229, rv r_2232, iv s0, rv r_2239, rv r_2244, iv s1, rv r_2253, rv r_2260, iv s2, rv b2272, iv (1 : Int32), iv (0 : Int32)]) rfl ?_
          refine XS.iload X2623.here hx rfl (hb hby at_235) rfl ?_
          refine XS.iconst X2623.here hx rfl (hb hby at_237) ?_
          refine XS.icmpYes X2623.here hx rfl (pc0 := 238) (pc' := 292) rfl (hb hby at_238) rfl (XT.ii_lt_t (by decide)) (by decide) (by decide) ?_
          refine XS.iload X2623.here hx rfl (hb hby at_292) rfl ?_
          show Steps p.tables e below (T2623.setTop (mkF m 294 #[iv p0, iv p1, iv p2, iv p3, iv (2 : Int32), iv ln, rv r_2229, rv r_2232, iv s0, rv r_2239, rv r_2244, iv s1, rv r_2253, rv r_2260, iv s2, rv b2272, iv (1 : Int32), iv (0 : Int32)] [(.int (1 : Int32))])) _
          refine XS.ifNo X2623.here hx rfl (hb hby at_294) rfl (XT.i0_eq_f (by decide)) ?_
          refine XS.aload X2623.here hx rfl (hb hby at_297) rfl rfl ?_
          exact kt
        obtain ⟨cq2626, kq2626, q2626a, q2626b, q2626c⟩ := isOf hZ e2623 J2600_0
        obtain ⟨_, _, ⟨T2626, L2626, k2626, n2626⟩, -, X2626, ⟨Lc2626, hQ2626, l2626, y2626, z2626⟩, st2626⟩ := X2623.virtualBack hx (y := (⟨"com/example/homethread/homethread/cli/ScenarioReport", "exitStatus", "()I"⟩ : MethodName)) (z := (⟨"com/example/homethread/homethread/cli/ScenarioReport", "exitStatus", "()I"⟩ : MethodName)) hown (mvT hZ (W 82 rfl)) (mvT hZ (W 83 rfl)) (notFace_of_selects (args := #[]) (mvT hZ (W 85 rfl))) (mvT hZ (W 85 rfl)) (mvT hZ (W 84 rfl)) (by decide) (backOf (W := 0) (rm_exitStatus17_0 l Z a0 hw [] b2272 h2600 n0 O2600 F2618) hZ (W 86 rfl) (W 51 rfl) (by decide) (by decide)) q2626a q2626c (g := (mkF m 299 #[iv p0, iv p1, iv p2, iv p3, iv (2 : Int32), iv ln, rv r_2229, rv r_2232, iv s0, rv r_2239, rv r_2244, iv s1, rv r_2253, rv r_2260, iv s2, rv b2272, iv (1 : Int32), iv (0 : Int32)] [(.ref b2272)])) rfl (by rw [hml]; rfl) (Steps.refl _) (argsL := []) (rest := []) (lenOf pd_50 rfl) rfl (by show 2 * 0 + _ ≤ _; exact Nat.le_of_eq rfl) (hb hby at_299) (fun _ _ => ⟨rfl, e2623, (by decide : 21 + 0 ≤ _), (by decide : 63 + 0 ≤ _)⟩)
        dsimp only [Pt.U, Pt.locs, Pt.cells, Pt.slots] at X2626 l2626 y2626 z2626 st2626 hQ2626
        subst l2626 y2626 z2626
        obtain ⟨rfl, M2626, e2626⟩ := hQ2626
        have N2626 := Fr.app N2623 M2626
        have pre2627 : ∀ t, Steps p.tables e below (T2626.setTop (mkF m 302 #[iv p0, iv p1, iv p2, iv p3, iv (2 : Int32), iv ln, rv r_2229, rv r_2232, iv s0, rv r_2239, rv r_2244, iv s1, rv r_2253, rv r_2260, iv s2, rv b2272, iv (1 : Int32), iv (0 : Int32)] [(.int (0 : Int32))])) t → Steps p.tables e below (s₁.setTop (entryFrame m #[(.int p0), (.int p1), (.int p2), (.int p3)] maxLocals)) t := fun t kt => pre2625 _ (st2626.trans kt)
        have pre2628 : ∀ t, Steps p.tables e below (T2626.setTop (mkF m 304 #[iv p0, iv p1, iv p2, iv p3, iv (2 : Int32), iv ln, rv r_2229, rv r_2232, iv s0, rv r_2239, rv r_2244, iv s1, rv r_2253, rv r_2260, iv s2, rv b2272, iv (1 : Int32), iv (0 : Int32)] [(.int (0 : Int32)), (.int (0 : Int32))])) t → Steps p.tables e below (s₁.setTop (entryFrame m #[(.int p0), (.int p1), (.int p2), (.int p3)] maxLocals)) t := fun t kt => by
          refine pre2627 _ ?_
          show Steps p.tables e below (T2626.setTop (mkF m 302 #[iv p0, iv p1, iv p2, iv p3, iv (2 : Int32), iv ln, rv r_2229, rv r_2232, iv s0, rv r_2239, rv r_2244, iv s1, rv r_2253, rv r_2260, iv s2, rv b2272, iv (1 : Int32), iv (0 : Int32)] [(.int (0 : Int32))])) _
          refine XS.iload X2626.here hx rfl (hb hby at_302) rfl ?_
          exact kt
        obtain ⟨_, _, ⟨T2629, L2629, k2629, n2629⟩, -, X2629, ⟨Lc2629, hQ2629, l2629, y2629, z2629⟩, st2629⟩ := Jvm.LawKit.callS X2626 hx (y := (⟨"com/example/homethread/homethread/cli/ScenarioReportExitStatusPinLaw", "want", "(Z)I"⟩ : MethodName)) hown (mvT hZ (W 139 rfl)) (mvT hZ (W 140 rfl)) (mvT hZ (W 2 rfl)) (mvT hZ (W 141 rfl)) (by decide) (backOf (W := 1) (rm_want26_0 l Z a0 hw [] h2600 n0 O2600) hZ (W 141 rfl) (W 2 rfl) (by decide) (by decide)) (g := (mkF m 304 #[iv p0, iv p1, iv p2, iv p3, iv (2 : Int32), iv ln, rv r_2229, rv r_2232, iv s0, rv r_2239, rv r_2244, iv s1, rv r_2253, rv r_2260, iv s2, rv b2272, iv (1 : Int32), iv (0 : Int32)] [(.int (0 : Int32)), (.int (0 : Int32))])) rfl (by rw [hml]; rfl) (argsL := [(.int (0 : Int32))]) (rest := [(.int (0 : Int32))]) (lenOf pd_52 rfl) rfl (by show 2 * 0 + _ ≤ _; exact Nat.le_of_eq rfl) (hb hby at_304) (fun _ _ => ⟨rfl, e2626, (by decide : 21 + 0 ≤ _), (by decide : 63 + 0 ≤ _)⟩)
        dsimp only [Pt.U, Pt.locs, Pt.cells, Pt.slots] at X2629 l2629 y2629 z2629 st2629 hQ2629
        subst l2629 y2629 z2629
        obtain ⟨rfl, M2629, e2629⟩ := hQ2629
        have N2629 := Fr.app N2626 M2629
        have pre2630 : ∀ t, Steps p.tables e below (T2629.setTop (mkF m 307 #[iv p0, iv p1, iv p2, iv p3, iv (2 : Int32), iv ln, rv r_2229, rv r_2232, iv s0, rv r_2239, rv r_2244, iv s1, rv r_2253, rv r_2260, iv s2, rv b2272, iv (1 : Int32), iv (0 : Int32)] [(.int (0 : Int32)), (.int (0 : Int32))])) t → Steps p.tables e below (s₁.setTop (entryFrame m #[(.int p0), (.int p1), (.int p2), (.int p3)] maxLocals)) t := fun t kt => pre2628 _ (st2629 _ kt)
        have pre2631 : ∀ t, Steps p.tables e below (T2629.setTop (mkF m 319 #[iv p0, iv p1, iv p2, iv p3, iv (2 : Int32), iv ln, rv r_2229, rv r_2232, iv s0, rv r_2239, rv r_2244, iv s1, rv r_2253, rv r_2260, iv s2, rv b2272, iv (1 : Int32), iv (0 : Int32)] [(.int (1 : Int32))])) t → Steps p.tables e below (s₁.setTop (entryFrame m #[(.int p0), (.int p1), (.int p2), (.int p3)] maxLocals)) t := fun t kt => by
          refine pre2630 _ ?_
          show Steps p.tables e below (T2629.setTop (mkF m 307 #[iv p0, iv p1, iv p2, iv p3, iv (2 : Int32), iv ln, rv r_2229, rv r_2232, iv s0, rv r_2239, rv r_2244, iv s1, rv r_2253, rv r_2260, iv s2, rv b2272, iv (1 : Int32), iv (0 : Int32)] [(.int (0 : Int32)), (.int (0 : Int32))])) _
          refine XS.icmpNo X2629.here hx rfl (hb hby at_307) rfl (XT.ii_ne_f (by decide)) ?_
          refine XS.iconst X2629.here hx rfl (hb hby at_310) ?_
          refine XS.goto X2629.here hx rfl (pc0 := 311) (pc' := 315) rfl (hb hby at_311) (by decide) (by decide) ?_
          refine XS.istore X2629.here hx rfl (hb hby at_315) rfl (l' := #[iv p0, iv p1, iv p2, iv p3, iv (2 : Int32), iv ln, rv r_2229, rv r_2232, iv s0, rv r_2239, rv r_2244, iv s1, rv r_2253, rv r_2260, iv s2, rv b2272, iv (1 : Int32), iv (0 : Int32)]) rfl ?_
          refine XS.iload X2629.here hx rfl (hb hby at_317) rfl ?_
          exact kt
        obtain ⟨fs, hr, hrun, hended, hW, hsame⟩ := X2629.leave (v := some (.int (1 : Int32))) (fun h => by rw [Bd.returns] at h; cases h)
        refine ⟨_, _, pre2631 _ (retN X2629 hx (t := .boolean) Bd.returns (by simp) (hb hby at_319) hr), hrun, hended, _, _, rfl, ?_, ⟨_, rfl⟩, hW, hsame.mono (by decide) (by decide)⟩
        show Q_law Z p0 p1 p2 p3 cz ad kd h0 n0 _ T2629.heap _
        rw [e2629]
        exact ⟨rfl, N2629⟩
  · rw [hv2488] at pre2487
    have pre2632 : ∀ t, Steps p.tables e below (T2473.setTop (mkF m 133 #[iv p0, iv p1, iv p2, iv p3, iv (3 : Int32), iv ln, rv r_2229, rv r_2232, iv s0, rv r_2239, rv r_2244, iv s1, rv r_2253, rv r_2260, iv s2, rv b2272, iv (1 : Int32), iv (0 : Int32)] [(.ref r_2232), (.ref r_2229), (.ref b2272)])) t → Steps p.tables e below (s₁.setTop (entryFrame m #[(.int p0), (.int p1), (.int p2), (.int p3)] maxLocals)) t := fun t kt => by
      refine pre2487 _ ?_
      show Steps p.tables e below (T2473.setTop (mkF m 121 #[iv p0, iv p1, iv p2, iv p3, iv (3 : Int32), iv ln, rv r_2229, rv r_2232, iv s0, rv r_2239, rv r_2244, iv s1, rv r_2253, rv r_2260, iv s2, rv b2272, iv (1 : Int32), iv (0 : Int32)] [])) _
      refine XS.iload X2473.here hx rfl (hb hby at_121) rfl ?_
      refine XS.iconst X2473.here hx rfl (hb hby at_123) ?_
      refine XS.icmpNo X2473.here hx rfl (hb hby at_124) rfl (XT.ii_lt_f (by decide)) ?_
      refine XS.aload X2473.here hx rfl (hb hby at_127) rfl rfl ?_
      refine XS.aload X2473.here hx rfl (hb hby at_129) rfl rfl ?_
      refine XS.aload X2473.here hx rfl (hb hby at_131) rfl rfl ?_
      exact kt
    obtain ⟨cq2633, kq2633, q2633a, q2633b, q2633c⟩ := isOf hZ e2473 J2279_0
    obtain ⟨_, _, ⟨T2633, L2633, k2633, n2633⟩, -, X2633, ⟨Lc2633, hQ2633, l2633, y2633, z2633⟩, st2633⟩ := X2473.virtualBack hx (y := (⟨"com/example/homethread/homethread/cli/ScenarioReport", "expectLine", "(Ljava/lang/String;Ljava/lang/String;)V"⟩ : MethodName)) (z := (⟨"com/example/homethread/homethread/cli/ScenarioReport", "expectLine", "(Ljava/lang/String;Ljava/lang/String;)V"⟩ : MethodName)) hown (mvT hZ (W 89 rfl)) (mvT hZ (W 90 rfl)) (notFace_of_selects (args := #[]) (mvT hZ (W 92 rfl))) (mvT hZ (W 92 rfl)) (mvT hZ (W 91 rfl)) (by decide) (backOf (W := 0) (rm_line0 l Z a0 hw [] b2272 r_2229 r_2232 cz ad kd b2446_2279 ((0 : Int32)) ((0 : Int32)) ((ln &&& (2 : Int32))) ((own_b ((p0 &&& (255 : Int32)) ^^^ (own_x0 p0)))) ((own_b ((((p0.toUInt32 >>> ((8 : Int32) &&& 31).toUInt32).toInt32) &&& (255 : Int32)) ^^^ (own_x1 p0)))) ((ln &&& (1 : Int32))) ((own_b (p0 &&& (255 : Int32)))) ((own_b (((p0.toUInt32 >>> ((8 : Int32) &&& 31).toUInt32).toInt32) &&& (255 : Int32)))) h2279 n0 O2279 G0 G1 G2 G3 g_b2272 g_b2446_2279 J2279_0 J2279_6 J2279_1 J2279_2 J2279_4 J2279_5 J2279_3 qz (fun q => ne_r_2229_r_2232 q.symm) (Or.inl rfl) ne_b2272_b2446_2279 h2260 XF2471 F2263 F2262 zF_b2272 zF_b2446_2279) hZ (W 93 rfl) (W 51 rfl) (by decide) (by decide)) q2633a q2633c (g := (mkF m 133 #[iv p0, iv p1, iv p2, iv p3, iv (3 : Int32), iv ln, rv r_2229, rv r_2232, iv s0, rv r_2239, rv r_2244, iv s1, rv r_2253, rv r_2260, iv s2, rv b2272, iv (1 : Int32), iv (0 : Int32)] [(.ref r_2232), (.ref r_2229), (.ref b2272)])) rfl (by rw [hml]; rfl) (Steps.refl _) (argsL := [(.ref r_2229), (.ref r_2232)]) (rest := []) (lenOf pd_53 rfl) rfl (by show 2 * 0 + _ ≤ _; exact Nat.le_of_eq rfl) (hb hby at_133) (fun _ _ => ⟨rfl, e2473, (by decide : 20 + 1 ≤ _), (by decide : 53 + 10 ≤ _)⟩)
    dsimp only [Pt.U, Pt.locs, Pt.cells, Pt.slots] at X2633 l2633 y2633 z2633 st2633 hQ2633
    subst l2633 y2633 z2633
    obtain ⟨na_2633, kna_2633, rfl, M2633, Kc2633, O2633, J2633_0, J2633_1, J2633_2, J2633_3, J2633_4, J2633_5, J2633_6, J2633_7, J2633_8, J2633_9, P2633_0⟩ := hQ2633
    obtain ⟨h2633, e2633⟩ : ∃ z, T2633.heap = z := ⟨_, rfl⟩
    rw [e2633] at Kc2633 O2633 J2633_0 J2633_1 J2633_2 J2633_3 J2633_4 J2633_5 J2633_6 J2633_7 J2633_8
    try rw [e2633] at P2633_0
    have N2633 := Fr.app N2473 M2633
    have K2633 : Keep h0 h2633 [] := K2279.trans Kc2633 (own_all2 (Or.inr sz_b2272) (Or.inr sz_b2446_2279))
    have pre2634 : ∀ t, Steps p.tables e below (T2633.setTop (mkF m 136 #[iv p0, iv p1, iv p2, iv p3, iv (3 : Int32), iv ln, rv r_2229, rv r_2232, iv s0, rv r_2239, rv r_2244, iv s1, rv r_2253, rv r_2260, iv s2, rv b2272, iv (1 : Int32), iv (0 : Int32)] [])) t → Steps p.tables e below (s₁.setTop (entryFrame m #[(.int p0), (.int p1), (.int p2), (.int p3)] maxLocals)) t := fun t kt => pre2632 _ (st2633.trans kt)
    have XF2635 : Ext h2260 h2633 := own_ext_keep XF2471 Kc2633 (own_all2 zF_b2272 zF_b2446_2279)
    have sz_na_2633 : h0.size ≤ na_2633 := Nat.le_trans K2279.1 P2633_0
    have ne_ad_na_2633 : ad ≠ na_2633 := Nat.ne_of_lt (Nat.lt_of_lt_of_le (G2.ext O2279.2).lt P2633_0)
    have ne_r_2229_na_2633 : r_2229 ≠ na_2633 := Nat.ne_of_lt (Nat.lt_of_lt_of_le (own_str_lt (own_str_ext F2262 XF2471)) P2633_0)
    have ne_r_2232_na_2633 : r_2232 ≠ na_2633 := Nat.ne_of_lt (Nat.lt_of_lt_of_le (own_str_lt (own_str_ext F2263 XF2471)) P2633_0)
    have ne_r_2239_na_2633 : r_2239 ≠ na_2633 := Nat.ne_of_lt (Nat.lt_of_lt_of_le (own_str_lt (own_str_ext F2264 XF2471)) P2633_0)
    have ne_r_2244_na_2633 : r_2244 ≠ na_2633 := Nat.ne_of_lt (Nat.lt_of_lt_of_le (own_str_lt (own_str_ext F2265 XF2471)) P2633_0)
    have ne_r_2253_na_2633 : r_2253 ≠ na_2633 := Nat.ne_of_lt (Nat.lt_of_lt_of_le (own_str_lt (own_str_ext F2266 XF2471)) P2633_0)
    have ne_r_2260_na_2633 : r_2260 ≠ na_2633 := Nat.ne_of_lt (Nat.lt_of_lt_of_le (own_str_lt (own_str_ext J2260_0 XF2471)) P2633_0)
    have ne_b2272_na_2633 : b2272 ≠ na_2633 := Nat.ne_of_lt (Nat.lt_of_lt_of_le J2279_0.lt P2633_0)
    have ne_b2446_2279_na_2633 : b2446_2279 ≠ na_2633 := Nat.ne_of_lt (Nat.lt_of_lt_of_le J2279_2.lt P2633_0)
    have g_na_2633 : n0 ≤ na_2633 := Nat.le_trans (Nat.le_trans (Nat.le_of_eq O0.1.symm) O0.2.1) sz_na_2633
    have zF_na_2633 : h2260.size ≤ na_2633 := Nat.le_trans XF2471.1 P2633_0
    rcases own_sync p0 ln with ⟨hs2636a, hs2636b⟩ | ⟨hs2636a, hs2636b⟩
    · rw [← hs0] at hs2636a
      have F2637 : Fld Z h2633 b2272 "com/example/homethread/homethread/cli/ScenarioReport" "differs" "Z" (.int (1 : Int32)) := own_fldcast J2633_2 (own_dif0 hs2636b)
      have pre2638 : ∀ t, Steps p.tables e below (T2633.setTop (mkF m 160 #[iv p0, iv p1, iv p2, iv p3, iv (3 : Int32), iv ln, rv r_2229, rv r_2232, iv s0, rv r_2239, rv r_2244, iv s1, rv r_2253, rv r_2260, iv s2, rv b2272, iv (1 : Int32), iv (1 : Int32)] [(.ref b2272)])) t → Steps p.tables e below (s₁.setTop (entryFrame m #[(.int p0), (.int p1), (.int p2), (.int p3)] maxLocals)) t := fun t kt => by
        refine pre2634 _ ?_
        show Steps p.tables e below (T2633.setTop (mkF m 136 #[iv p0, iv p1, iv p2, iv p3, iv (3 : Int32), iv ln, rv r_2229, rv r_2232, iv s0, rv r_2239, rv r_2244, iv s1, rv r_2253, rv r_2260, iv s2, rv b2272, iv (1 : Int32), iv (0 : Int32)] [])) _
        refine XS.iload X2633.here hx rfl (hb hby at_136) rfl ?_
        refine XS.ifNo X2633.here hx rfl (hb hby at_138) rfl (XT.i0_ne_f (by decide)) ?_
        refine XS.iload X2633.here hx rfl (hb hby at_141) rfl ?_
        refine XS.ifNo X2633.here hx rfl (hb hby at_143) rfl (XT.i0_ne_f hs2636a) ?_
        refine XS.iconst X2633.here hx rfl (hb hby at_146) ?_
        refine XS.goto X2633.here hx rfl (pc0 := 147) (pc' := 151) rfl (hb hby at_147) (by decide) (by decide) ?_
        refine XS.istore X2633.here hx rfl (hb hby at_151) rfl (l' := #[iv p0, iv p1, iv p2, iv p3, iv (3 : Int32), iv ln, rv r_2229, rv r_2232, iv s0, rv r_2239, rv r_2244, iv s1, rv r_2253, rv r_2260, iv s2, rv b2272, iv (1 : Int32), iv (1 : Int32)]) rfl ?_
        refine XS.iload X2633.here hx rfl (hb hby at_153) rfl ?_
        show Steps p.tables e below (T2633.setTop (mkF m 155 #[iv p0, iv p1, iv p2, iv p3, iv (3 : Int32), iv ln, rv r_2229, rv r_2232, iv s0, rv r_2239, rv r_2244, iv s1, rv r_2253, rv r_2260, iv s2, rv b2272, iv (1 : Int32), iv (1 : Int32)] [(.int (1 : Int32))])) _
        refine XS.ifNo X2633.here hx rfl (hb hby at_155) rfl (XT.i0_eq_f (by decide)) ?_
        refine XS.aload X2633.here hx rfl (hb hby at_158) rfl rfl ?_
        exact kt
      obtain ⟨cq2639, kq2639, q2639a, q2639b, q2639c⟩ := isOf hZ e2633 J2633_0
      obtain ⟨_, _, ⟨T2639, L2639, k2639, n2639⟩, -, X2639, ⟨Lc2639, hQ2639, l2639, y2639, z2639⟩, st2639⟩ := X2633.virtualBack hx (y := (⟨"com/example/homethread/homethread/cli/ScenarioReport", "exitStatus", "()I"⟩ : MethodName)) (z := (⟨"com/example/homethread/homethread/cli/ScenarioReport", "exitStatus", "()I"⟩ : MethodName)) hown (mvT hZ (W 82 rfl)) (mvT hZ (W 83 rfl)) (notFace_of_selects (args := #[]) (mvT hZ (W 85 rfl))) (mvT hZ (W 85 rfl)) (mvT hZ (W 84 rfl)) (by decide) (backOf (W := 0) (rm_exitStatus17_1 l Z a0 hw [] b2272 h2633 n0 O2633 F2637) hZ (W 86 rfl) (W 51 rfl) (by decide) (by decide)) q2639a q2639c (g := (mkF m 160 #[iv p0, iv p1, iv p2, iv p3, iv (3 : Int32), iv ln, rv r_2229, rv r_2232, iv s0, rv r_2239, rv r_2244, iv s1, rv r_2253, rv r_2260, iv s2, rv b2272, iv (1 : Int32), iv (1 : Int32)] [(.ref b2272)])) rfl (by rw [hml]; rfl) (Steps.refl _) (argsL := []) (rest := []) (lenOf pd_50 rfl) rfl (by show 2 * 0 + _ ≤ _; exact Nat.le_of_eq rfl) (hb hby at_160) (fun _ _ => ⟨rfl, e2633, (by decide : 21 + 0 ≤ _), (by decide : 63 + 0 ≤ _)⟩)
      dsimp only [Pt.U, Pt.locs, Pt.cells, Pt.slots] at X2639 l2639 y2639 z2639 st2639 hQ2639
      subst l2639 y2639 z2639
      obtain ⟨rfl, M2639, e2639⟩ := hQ2639
      have N2639 := Fr.app N2633 M2639
      have pre2640 : ∀ t, Steps p.tables e below (T2639.setTop (mkF m 163 #[iv p0, iv p1, iv p2, iv p3, iv (3 : Int32), iv ln, rv r_2229, rv r_2232, iv s0, rv r_2239, rv r_2244, iv s1, rv r_2253, rv r_2260, iv s2, rv b2272, iv (1 : Int32), iv (1 : Int32)] [(.int (1 : Int32))])) t → Steps p.tables e below (s₁.setTop (entryFrame m #[(.int p0), (.int p1), (.int p2), (.int p3)] maxLocals)) t := fun t kt => pre2638 _ (st2639.trans kt)
      have pre2641 : ∀ t, Steps p.tables e below (T2639.setTop (mkF m 165 #[iv p0, iv p1, iv p2, iv p3, iv (3 : Int32), iv ln, rv r_2229, rv r_2232, iv s0, rv r_2239, rv r_2244, iv s1, rv r_2253, rv r_2260, iv s2, rv b2272, iv (1 : Int32), iv (1 : Int32)] [(.int (1 : Int32)), (.int (1 : Int32))])) t → Steps p.tables e below (s₁.setTop (entryFrame m #[(.int p0), (.int p1), (.int p2), (.int p3)] maxLocals)) t := fun t kt => by
        refine pre2640 _ ?_
        show Steps p.tables e below (T2639.setTop (mkF m 163 #[iv p0, iv p1, iv p2, iv p3, iv (3 : Int32), iv ln, rv r_2229, rv r_2232, iv s0, rv r_2239, rv r_2244, iv s1, rv r_2253, rv r_2260, iv s2, rv b2272, iv (1 : Int32), iv (1 : Int32)] [(.int (1 : Int32))])) _
        refine XS.iload X2639.here hx rfl (hb hby at_163) rfl ?_
        exact kt
      obtain ⟨_, _, ⟨T2642, L2642, k2642, n2642⟩, -, X2642, ⟨Lc2642, hQ2642, l2642, y2642, z2642⟩, st2642⟩ := Jvm.LawKit.callS X2639 hx (y := (⟨"com/example/homethread/homethread/cli/ScenarioReportExitStatusPinLaw", "want", "(Z)I"⟩ : MethodName)) hown (mvT hZ (W 139 rfl)) (mvT hZ (W 140 rfl)) (mvT hZ (W 2 rfl)) (mvT hZ (W 141 rfl)) (by decide) (backOf (W := 1) (rm_want26_1 l Z a0 hw [] h2633 n0 O2633) hZ (W 141 rfl) (W 2 rfl) (by decide) (by decide)) (g := (mkF m 165 #[iv p0, iv p1, iv p2, iv p3, iv (3 : Int32), iv ln, rv r_2229, rv r_2232, iv s0, rv r_2239, rv r_2244, iv s1, rv r_2253, rv r_2260, iv s2, rv b2272, iv (1 : Int32), iv (1 : Int32)] [(.int (1 : Int32)), (.int (1 : Int32))])) rfl (by rw [hml]; rfl) (argsL := [(.int (1 : Int32))]) (rest := [(.int (1 : Int32))]) (lenOf pd_52 rfl) rfl (by show 2 * 0 + _ ≤ _; exact Nat.le_of_eq rfl) (hb hby at_165) (fun _ _ => ⟨rfl, e2639, (by decide : 21 + 0 ≤ _), (by decide : 63 + 0 ≤ _)⟩)
      dsimp only [Pt.U, Pt.locs, Pt.cells, Pt.slots] at X2642 l2642 y2642 z2642 st2642 hQ2642
      subst l2642 y2642 z2642
      obtain ⟨rfl, M2642, e2642⟩ := hQ2642
      have N2642 := Fr.app N2639 M2642
      have pre2643 : ∀ t, Steps p.tables e below (T2642.setTop (mkF m 168 #[iv p0, iv p1, iv p2, iv p3, iv (3 : Int32), iv ln, rv r_2229, rv r_2232, iv s0, rv r_2239, rv r_2244, iv s1, rv r_2253, rv r_2260, iv s2, rv b2272, iv (1 : Int32), iv (1 : Int32)] [(.int (1 : Int32)), (.int (1 : Int32))])) t → Steps p.tables e below (s₁.setTop (entryFrame m #[(.int p0), (.int p1), (.int p2), (.int p3)] maxLocals)) t := fun t kt => pre2641 _ (st2642 _ kt)
      have pre2644 : ∀ t, Steps p.tables e below (T2642.setTop (mkF m 190 #[iv p0, iv p1, iv p2, iv p3, iv (3 : Int32), iv ln, rv r_2229, rv r_2232, iv s0, rv r_2239, rv r_2244, iv s1, rv r_2253, rv r_2260, iv s2, rv b2272, iv (1 : Int32), iv (1 : Int32)] [(.ref r_2244), (.ref r_2239), (.ref b2272)])) t → Steps p.tables e below (s₁.setTop (entryFrame m #[(.int p0), (.int p1), (.int p2), (.int p3)] maxLocals)) t := fun t kt => by
        refine pre2643 _ ?_
        show Steps p.tables e below (T2642.setTop (mkF m 168 #[iv p0, iv p1, iv p2, iv p3, iv (3 : Int32), iv ln, rv r_2229, rv r_2232, iv s0, rv r_2239, rv r_2244, iv s1, rv r_2253, rv r_2260, iv s2, rv b2272, iv (1 : Int32), iv (1 : Int32)] [(.int (1 : Int32)), (.int (1 : Int32))])) _
        refine XS.icmpNo X2642.here hx rfl (hb hby at_168) rfl (XT.ii_ne_f (by decide)) ?_
        refine XS.iconst X2642.here hx rfl (hb hby at_171) ?_
        refine XS.goto X2642.here hx rfl (pc0 := 172) (pc' := 176) rfl (hb hby at_172) (by decide) (by decide) ?_
        refine XS.istore X2642.here hx rfl (hb hby at_176) rfl (l' := #[iv p0, iv p1, iv p2, iv p3, iv (3 : Int32), iv ln, rv r_2229, rv r_2232, iv s0, rv r_2239, rv r_2244, iv s1, rv r_2253, rv r_2260, iv s2, rv b2272, iv (1 : Int32), iv (1 : Int32)]) rfl ?_
        refine XS.iload X2642.here hx rfl (hb hby at_178) rfl ?_
        refine XS.iconst X2642.here hx rfl (hb hby at_180) ?_
        refine XS.icmpNo X2642.here hx rfl (hb hby at_181) rfl (XT.ii_lt_f (by decide)) ?_
        refine XS.aload X2642.here hx rfl (hb hby at_184) rfl rfl ?_
        show Steps p.tables e below (T2642.setTop (mkF m 186 #[iv p0, iv p1, iv p2, iv p3, iv (3 : Int32), iv ln, rv r_2229, rv r_2232, iv s0, rv r_2239, rv r_2244, iv s1, rv r_2253, rv r_2260, iv s2, rv b2272, iv (1 : Int32), iv (1 : Int32)] [(.ref b2272)])) _
        refine XS.aload X2642.here hx rfl (hb hby at_186) rfl rfl ?_
        refine XS.aload X2642.here hx rfl (hb hby at_188) rfl rfl ?_
        exact kt
      obtain ⟨cq2645, kq2645, q2645a, q2645b, q2645c⟩ := isOf hZ e2642 J2633_0
      obtain ⟨_, _, ⟨T2645, L2645, k2645, n2645⟩, -, X2645, ⟨Lc2645, hQ2645, l2645, y2645, z2645⟩, st2645⟩ := X2642.virtualBack hx (y := (⟨"com/example/homethread/homethread/cli/ScenarioReport", "expectLine", "(Ljava/lang/String;Ljava/lang/String;)V"⟩ : MethodName)) (z := (⟨"com/example/homethread/homethread/cli/ScenarioReport", "expectLine", "(Ljava/lang/String;Ljava/lang/String;)V"⟩ : MethodName)) hown (mvT hZ (W 89 rfl)) (mvT hZ (W 90 rfl)) (notFace_of_selects (args := #[]) (mvT hZ (W 92 rfl))) (mvT hZ (W 92 rfl)) (mvT hZ (W 91 rfl)) (by decide) (backOf (W := 0) (rm_line1 l Z a0 hw [] b2272 r_2239 r_2244 cz ad kd b2446_2279 (((0 : Int32) + (1 : Int32))) ((1 : Int32)) ((l2 &&& (2 : Int32))) ((own_b ((p1 &&& (255 : Int32)) ^^^ (own_x0 p1)))) ((own_b ((((p1.toUInt32 >>> ((8 : Int32) &&& 31).toUInt32).toInt32) &&& (255 : Int32)) ^^^ (own_x1 p1)))) ((l2 &&& (1 : Int32))) ((own_b (p1 &&& (255 : Int32)))) ((own_b (((p1.toUInt32 >>> ((8 : Int32) &&& 31).toUInt32).toInt32) &&& (255 : Int32)))) na_2633 kna_2633 ((.ref r_2232)) h2633 n0 O2633 G0 G1 G2 G3 g_b2272 g_b2446_2279 g_na_2633 J2633_0 J2633_1 F2637 J2633_3 J2633_4 J2633_5 J2633_6 J2633_7 J2633_8 J2633_9 qz (fun q => ne_r_2239_r_2244 q.symm) (Or.inr rfl) ne_b2272_b2446_2279 ne_b2272_na_2633 ne_b2446_2279_na_2633 h2260 XF2635 F2265 F2264 zF_b2272 zF_b2446_2279 zF_na_2633) hZ (W 93 rfl) (W 51 rfl) (by decide) (by decide)) q2645a q2645c (g := (mkF m 190 #[iv p0, iv p1, iv p2, iv p3, iv (3 : Int32), iv ln, rv r_2229, rv r_2232, iv s0, rv r_2239, rv r_2244, iv s1, rv r_2253, rv r_2260, iv s2, rv b2272, iv (1 : Int32), iv (1 : Int32)] [(.ref r_2244), (.ref r_2239), (.ref b2272)])) rfl (by rw [hml]; rfl) (Steps.refl _) (argsL := [(.ref r_2239), (.ref r_2244)]) (rest := []) (lenOf pd_53 rfl) rfl (by show 2 * 0 + _ ≤ _; exact Nat.le_of_eq rfl) (hb hby at_190) (fun _ _ => ⟨rfl, e2642, (by decide : 21 + 0 ≤ _), (by decide : 63 + 0 ≤ _)⟩)
      dsimp only [Pt.U, Pt.locs, Pt.cells, Pt.slots] at X2645 l2645 y2645 z2645 st2645 hQ2645
      subst l2645 y2645 z2645
      obtain ⟨rfl, M2645, Kc2645, O2645, J2645_0, J2645_1, J2645_2, J2645_3, J2645_4, J2645_5, J2645_6, J2645_7, J2645_8, J2645_9⟩ := hQ2645
      obtain ⟨h2645, e2645⟩ : ∃ z, T2645.heap = z := ⟨_, rfl⟩
      rw [e2645] at Kc2645 O2645 J2645_0 J2645_1 J2645_2 J2645_3 J2645_4 J2645_5 J2645_6 J2645_7 J2645_8
      have N2645 := Fr.app N2642 M2645
      have K2645 : Keep h0 h2645 [] := K2633.trans Kc2645 (own_all3 (Or.inr sz_b2272) (Or.inr sz_b2446_2279) (Or.inr sz_na_2633))
      have pre2646 : ∀ t, Steps p.tables e below (T2645.setTop (mkF m 193 #[iv p0, iv p1, iv p2, iv p3, iv (3 : Int32), iv ln, rv r_2229, rv r_2232, iv s0, rv r_2239, rv r_2244, iv s1, rv r_2253, rv r_2260, iv s2, rv b2272, iv (1 : Int32), iv (1 : Int32)] [])) t → Steps p.tables e below (s₁.setTop (entryFrame m #[(.int p0), (.int p1), (.int p2), (.int p3)] maxLocals)) t := fun t kt => pre2644 _ (st2645.trans kt)
      have XF2647 : Ext h2260 h2645 := own_ext_keep XF2635 Kc2645 (own_all3 zF_b2272 zF_b2446_2279 zF_na_2633)
      rcases own_sync p1 l2 with ⟨hs2648a, hs2648b⟩ | ⟨hs2648a, hs2648b⟩
      · rw [← hs1] at hs2648a
        have F2649 : Fld Z h2645 b2272 "com/example/homethread/homethread/cli/ScenarioReport" "differs" "Z" (.int (1 : Int32)) := own_fldcast J2645_2 (own_dif0 hs2648b)
        have pre2650 : ∀ t, Steps p.tables e below (T2645.setTop (mkF m 217 #[iv p0, iv p1, iv p2, iv p3, iv (3 : Int32), iv ln, rv r_2229, rv r_2232, iv s0, rv r_2239, rv r_2244, iv s1, rv r_2253, rv r_2260, iv s2, rv b2272, iv (1 : Int32), iv (1 : Int32)] [(.ref b2272)])) t → Steps p.tables e below (s₁.setTop (entryFrame m #[(.int p0), (.int p1), (.int p2), (.int p3)] maxLocals)) t := fun t kt => by
          refine pre2646 _ ?_
          show Steps p.tables e below (T2645.setTop (mkF m 193 #[iv p0, iv p1, iv p2, iv p3, iv (3 : Int32), iv ln, rv r_2229, rv r_2232, iv s0, rv r_2239, rv r_2244, iv s1, rv r_2253, rv r_2260, iv s2, rv b2272, iv (1 : Int32), iv (1 : Int32)] [])) _
          refine XS.iload X2645.here hx rfl (hb hby at_193) rfl ?_
          refine XS.ifYes X2645.here hx rfl (pc0 := 195) (pc' := 203) rfl (hb hby at_195) rfl (XT.i0_ne_t (by decide)) (by decide) (by decide) ?_
          refine XS.iconst X2645.here hx rfl (hb hby at_203) ?_
          refine XS.goto X2645.here hx rfl (pc0 := 204) (pc' := 208) rfl (hb hby at_204) (by decide) (by decide) ?_
          refine XS.istore X2645.here hx rfl (hb hby at_208) rfl (l' := #[iv p0, iv p1, iv p2, iv p3, iv (3 : Int32), iv ln, rv r_2229, rv r_2232, iv s0, rv r_2239, rv r_2244, iv s1, rv r_2253, rv r_2260, iv s2, rv b2272, iv (1 : Int32), iv (1 : Int32)]) rfl ?_
          refine XS.iload X2645.here hx rfl (hb hby at_210) rfl ?_
          refine XS.ifNo X2645.here hx rfl (hb hby at_212) rfl (XT.i0_eq_f (by decide)) ?_
          refine XS.aload X2645.here hx rfl (hb hby at_215) rfl rfl ?_
          exact kt
        obtain ⟨cq2651, kq2651, q2651a, q2651b, q2651c⟩ := isOf hZ e2645 J2645_0
        obtain ⟨_, _, ⟨T2651, L2651, k2651, n2651⟩, -, X2651, ⟨Lc2651, hQ2651, l2651, y2651, z2651⟩, st2651⟩ := X2645.virtualBack hx (y := (⟨"com/example/homethread/homethread/cli/ScenarioReport", "exitStatus", "()I"⟩ : MethodName)) (z := (⟨"com/example/homethread/homethread/cli/ScenarioReport", "exitStatus", "()I"⟩ : MethodName)) hown (mvT hZ (W 82 rfl)) (mvT hZ (W 83 rfl)) (notFace_of_selects (args := #[]) (mvT hZ (W 85 rfl))) (mvT hZ (W 85 rfl)) (mvT hZ (W 84 rfl)) (by decide) (backOf (W := 0) (rm_exitStatus17_1 l Z a0 hw [] b2272 h2645 n0 O2645 F2649) hZ (W 86 rfl) (W 51 rfl) (by decide) (by decide)) q2651a q2651c (g := (mkF m 217 #[iv p0, iv p1, iv p2, iv p3, iv (3 : Int32), iv ln, rv r_2229, rv r_2232, iv s0, rv r_2239, rv r_2244, iv s1, rv r_2253, rv r_2260, iv s2, rv b2272, iv (1 : Int32), iv (1 : Int32)] [(.ref b2272)])) rfl (by rw [hml]; rfl) (Steps.refl _) (argsL := []) (rest := []) (lenOf pd_50 rfl) rfl (by show 2 * 0 + _ ≤ _; exact Nat.le_of_eq rfl) (hb hby at_217) (fun _ _ => ⟨rfl, e2645, (by decide : 21 + 0 ≤ _), (by decide : 63 + 0 ≤ _)⟩)
        dsimp only [Pt.U, Pt.locs, Pt.cells, Pt.slots] at X2651 l2651 y2651 z2651 st2651 hQ2651
        subst l2651 y2651 z2651
        obtain ⟨rfl, M2651, e2651⟩ := hQ2651
        have N2651 := Fr.app N2645 M2651
        have pre2652 : ∀ t, Steps p.tables e below (T2651.setTop (mkF m 220 #[iv p0, iv p1, iv p2, iv p3, iv (3 : Int32), iv ln, rv r_2229, rv r_2232, iv s0, rv r_2239, rv r_2244, iv s1, rv r_2253, rv r_2260, iv s2, rv b2272, iv (1 : Int32), iv (1 : Int32)] [(.int (1 : Int32))])) t → Steps p.tables e below (s₁.setTop (entryFrame m #[(.int p0), (.int p1), (.int p2), (.int p3)] maxLocals)) t := fun t kt => pre2650 _ (st2651.trans kt)
        have pre2653 : ∀ t, Steps p.tables e below (T2651.setTop (mkF m 222 #[iv p0, iv p1, iv p2, iv p3, iv (3 : Int32), iv ln, rv r_2229, rv r_2232, iv s0, rv r_2239, rv r_2244, iv s1, rv r_2253, rv r_2260, iv s2, rv b2272, iv (1 : Int32), iv (1 : Int32)] [(.int (1 : Int32)), (.int (1 : Int32))])) t → Steps p.tables e below (s₁.setTop (entryFrame m #[(.int p0), (.int p1), (.int p2), (.int p3)] maxLocals)) t := fun t kt => by
          refine pre2652 _ ?_
          show Steps p.tables e below (T2651.setTop (mkF m 220 #[iv p0, iv p1, iv p2, iv p3, iv (3 : Int32), iv ln, rv r_2229, rv r_2232, iv s0, rv r_2239, rv r_2244, iv s1, rv r_2253, rv r_2260, iv s2, rv b2272, iv (1 : Int32), iv (1 : Int32)] [(.int (1 : Int32))])) _
          refine XS.iload X2651.here hx rfl (hb hby at_220) rfl ?_
          exact kt
        obtain ⟨_, _, ⟨T2654, L2654, k2654, n2654⟩, -, X2654, ⟨Lc2654, hQ2654, l2654, y2654, z2654⟩, st2654⟩ := Jvm.LawKit.callS X2651 hx (y := (⟨"com/example/homethread/homethread/cli/ScenarioReportExitStatusPinLaw", "want", "(Z)I"⟩ : MethodName)) hown (mvT hZ (W 139 rfl)) (mvT hZ (W 140 rfl)) (mvT hZ (W 2 rfl)) (mvT hZ (W 141 rfl)) (by decide) (backOf (W := 1) (rm_want26_1 l Z a0 hw [] h2645 n0 O2645) hZ (W 141 rfl) (W 2 rfl) (by decide) (by decide)) (g := (mkF m 222 #[iv p0, iv p1, iv p2, iv p3, iv (3 : Int32), iv ln, rv r_2229, rv r_2232, iv s0, rv r_2239, rv r_2244, iv s1, rv r_2253, rv r_2260, iv s2, rv b2272, iv (1 : Int32), iv (1 : Int32)] [(.int (1 : Int32)), (.int (1 : Int32))])) rfl (by rw [hml]; rfl) (argsL := [(.int (1 : Int32))]) (rest := [(.int (1 : Int32))]) (lenOf pd_52 rfl) rfl (by show 2 * 0 + _ ≤ _; exact Nat.le_of_eq rfl) (hb hby at_222) (fun _ _ => ⟨rfl, e2651, (by decide : 21 + 0 ≤ _), (by decide : 63 + 0 ≤ _)⟩)
        dsimp only [Pt.U, Pt.locs, Pt.cells, Pt.slots] at X2654 l2654 y2654 z2654 st2654 hQ2654
        subst l2654 y2654 z2654
        obtain ⟨rfl, M2654, e2654⟩ := hQ2654
        have N2654 := Fr.app N2651 M2654
        have pre2655 : ∀ t, Steps p.tables e below (T2654.setTop (mkF m 225 #[iv p0, iv p1, iv p2, iv p3, iv (3 : Int32), iv ln, rv r_2229, rv r_2232, iv s0, rv r_2239, rv r_2244, iv s1, rv r_2253, rv r_2260, iv s2, rv b2272, iv (1 : Int32), iv (1 : Int32)] [(.int (1 : Int32)), (.int (1 : Int32))])) t → Steps p.tables e below (s₁.setTop (entryFrame m #[(.int p0), (.int p1), (.int p2), (.int p3)] maxLocals)) t := fun t kt => pre2653 _ (st2654 _ kt)
        have pre2656 : ∀ t, Steps p.tables e below (T2654.setTop (mkF m 247 #[iv p0, iv p1, iv p2, iv p3, iv (3 : Int32), iv ln, rv r_2229, rv r_2232, iv s0, rv r_2239, rv r_2244, iv s1, rv r_2253, rv r_2260, iv s2, rv b2272, iv (1 : Int32), iv (1 : Int32)] [(.ref r_2260), (.ref r_2253), (.ref b2272)])) t → Steps p.tables e below (s₁.setTop (entryFrame m #[(.int p0), (.int p1), (.int p2), (.int p3)] maxLocals)) t := fun t kt => by
          refine pre2655 _ ?_
          show Steps p.tables e below (T2654.setTop (mkF m 225 #[iv p0, iv p1, iv p2, iv p3, iv (3 : Int32), iv ln, rv r_2229, rv r_2232, iv s0, rv r_2239, rv r_2244, iv s1, rv r_2253, rv r_2260, iv s2, rv b2272, iv (1 : Int32), iv (1 : Int32)] [(.int (1 : Int32)), (.int (1 : Int32))])) _
          refine XS.icmpNo X2654.here hx rfl (hb hby at_225) rfl (XT.ii_ne_f (by decide)) ?_
          refine XS.iconst X2654.here hx rfl (hb hby at_228) ?_
          refine XS.goto X2654.here hx rfl (pc0 := 229) (pc' := 233) rfl (hb hby at_229) (by decide) (by decide) ?_
          refine XS.istore X2654.here hx rfl (hb hby at_233) rfl (l' := #[iv p0, iv p1, iv p2, iv p3, iv (3 : Int32), iv ln, rv r_2229, rv r_2232, iv s0, rv r_2239, rv r_2244, iv s1, rv r_2253, rv r_2260, iv s2, rv b2272, iv (1 : Int32), iv (1 : Int32)]) rfl ?_
          refine XS.iload X2654.here hx rfl (hb hby at_235) rfl ?_
          refine XS.iconst X2654.here hx rfl (hb hby at_237) ?_
          refine XS.icmpNo X2654.here hx rfl (hb hby at_238) rfl (XT.ii_lt_f (by decide)) ?_
          refine XS.aload X2654.here hx rfl (hb hby at_241) rfl rfl ?_
          show Steps p.tables e below (T2654.setTop (mkF m 243 #[iv p0, iv p1, iv p2, iv p3, iv (3 : Int32), iv ln, rv r_2229, rv r_2232, iv s0, rv r_2239, rv r_2244, iv s1, rv r_2253, rv r_2260, iv s2, rv b2272, iv (1 : Int32), iv (1 : Int32)] [(.ref b2272)])) _
          refine XS.aload X2654.here hx rfl (hb hby at_243) rfl rfl ?_
          refine XS.aload X2654.here hx rfl (hb hby at_245) rfl rfl ?_
          exact kt
        obtain ⟨cq2657, kq2657, q2657a, q2657b, q2657c⟩ := isOf hZ e2654 J2645_0
        obtain ⟨_, _, ⟨T2657, L2657, k2657, n2657⟩, -, X2657, ⟨Lc2657, hQ2657, l2657, y2657, z2657⟩, st2657⟩ := X2654.virtualBack hx (y := (⟨"com/example/homethread/homethread/cli/ScenarioReport", "expectLine", "(Ljava/lang/String;Ljava/lang/String;)V"⟩ : MethodName)) (z := (⟨"com/example/homethread/homethread/cli/ScenarioReport", "expectLine", "(Ljava/lang/String;Ljava/lang/String;)V"⟩ : MethodName)) hown (mvT hZ (W 89 rfl)) (mvT hZ (W 90 rfl)) (notFace_of_selects (args := #[]) (mvT hZ (W 92 rfl))) (mvT hZ (W 92 rfl)) (mvT hZ (W 91 rfl)) (by decide) (backOf (W := 0) (rm_line2 l Z a0 hw [] b2272 r_2253 r_2260 cz ad kd b2446_2279 ((((0 : Int32) + (1 : Int32)) + (1 : Int32))) ((1 : Int32)) ((l4 &&& (2 : Int32))) ((own_b ((p2 &&& (255 : Int32)) ^^^ (own_x0 p2)))) ((own_b ((((p2.toUInt32 >>> ((8 : Int32) &&& 31).toUInt32).toInt32) &&& (255 : Int32)) ^^^ (own_x1 p2)))) ((l4 &&& (1 : Int32))) ((own_b (p2 &&& (255 : Int32)))) ((own_b (((p2.toUInt32 >>> ((8 : Int32) &&& 31).toUInt32).toInt32) &&& (255 : Int32)))) na_2633 kna_2633 ((.ref r_2232)) ((.ref r_2244)) h2645 n0 O2645 G0 G1 G2 G3 g_b2272 g_b2446_2279 g_na_2633 J2645_0 J2645_1 F2649 J2645_3 J2645_4 J2645_5 J2645_6 J2645_7 J2645_8 J2645_9 qz (fun q => ne_r_2253_r_2260 q.symm) (Or.inr rfl) ne_b2272_b2446_2279 ne_b2272_na_2633 ne_b2446_2279_na_2633 h2260 XF2647 J2260_0 F2266 zF_b2272 zF_b2446_2279 zF_na_2633) hZ (W 93 rfl) (W 51 rfl) (by decide) (by decide)) q2657a q2657c (g := (mkF m 247 #[iv p0, iv p1, iv p2, iv p3, iv (3 : Int32), iv ln, rv r_2229, rv r_2232, iv s0, rv r_2239, rv r_2244, iv s1, rv r_2253, rv r_2260, iv s2, rv b2272, iv (1 : Int32), iv (1 : Int32)] [(.ref r_2260), (.ref r_2253), (.ref b2272)])) rfl (by rw [hml]; rfl) (Steps.refl _) (argsL := [(.ref r_2253), (.ref r_2260)]) (rest := []) (lenOf pd_53 rfl) rfl (by show 2 * 0 + _ ≤ _; exact Nat.le_of_eq rfl) (hb hby at_247) (fun _ _ => ⟨rfl, e2654, (by decide : 21 + 0 ≤ _), (by decide : 63 + 0 ≤ _)⟩)
        dsimp only [Pt.U, Pt.locs, Pt.cells, Pt.slots] at X2657 l2657 y2657 z2657 st2657 hQ2657
        subst l2657 y2657 z2657
        obtain ⟨rfl, M2657, Kc2657, O2657, J2657_0, J2657_1, J2657_2, J2657_3, J2657_4, J2657_5, J2657_6, J2657_7, J2657_8, J2657_9⟩ := hQ2657
        obtain ⟨h2657, e2657⟩ : ∃ z, T2657.heap = z := ⟨_, rfl⟩
        rw [e2657] at Kc2657 O2657 J2657_0 J2657_1 J2657_2 J2657_3 J2657_4 J2657_5 J2657_6 J2657_7 J2657_8
        have N2657 := Fr.app N2654 M2657
        have K2657 : Keep h0 h2657 [] := K2645.trans Kc2657 (own_all3 (Or.inr sz_b2272) (Or.inr sz_b2446_2279) (Or.inr sz_na_2633))
        have pre2658 : ∀ t, Steps p.tables e below (T2657.setTop (mkF m 250 #[iv p0, iv p1, iv p2, iv p3, iv (3 : Int32), iv ln, rv r_2229, rv r_2232, iv s0, rv r_2239, rv r_2244, iv s1, rv r_2253, rv r_2260, iv s2, rv b2272, iv (1 : Int32), iv (1 : Int32)] [])) t → Steps p.tables e below (s₁.setTop (entryFrame m #[(.int p0), (.int p1), (.int p2), (.int p3)] maxLocals)) t := fun t kt => pre2656 _ (st2657.trans kt)
        have XF2659 : Ext h2260 h2657 := own_ext_keep XF2647 Kc2657 (own_all3 zF_b2272 zF_b2446_2279 zF_na_2633)
        rcases own_sync p2 l4 with ⟨hs2660a, hs2660b⟩ | ⟨hs2660a, hs2660b⟩
        · rw [← hs2] at hs2660a
          have F2661 : Fld Z h2657 b2272 "com/example/homethread/homethread/cli/ScenarioReport" "differs" "Z" (.int (1 : Int32)) := own_fldcast J2657_2 (own_dif0 hs2660b)
          have pre2662 : ∀ t, Steps p.tables e below (T2657.setTop (mkF m 274 #[iv p0, iv p1, iv p2, iv p3, iv (3 : Int32), iv ln, rv r_2229, rv r_2232, iv s0, rv r_2239, rv r_2244, iv s1, rv r_2253, rv r_2260, iv s2, rv b2272, iv (1 : Int32), iv (1 : Int32)] [(.ref b2272)])) t → Steps p.tables e below (s₁.setTop (entryFrame m #[(.int p0), (.int p1), (.int p2), (.int p3)] maxLocals)) t := fun t kt => by
            refine pre2658 _ ?_
            show Steps p.tables e below (T2657.setTop (mkF m 250 #[iv p0, iv p1, iv p2, iv p3, iv (3 : Int32), iv ln, rv r_2229, rv r_2232, iv s0, rv r_2239, rv r_2244, iv s1, rv r_2253, rv r_2260, iv s2, rv b2272, iv (1 : Int32), iv (1 : Int32)] [])) _
            refine XS.iload X2657.here hx rfl (hb hby at_250) rfl ?_
            refine XS.ifYes X2657.here hx rfl (pc0 := 252) (pc' := 260) rfl (hb hby at_252) rfl (XT.i0_ne_t (by decide)) (by decide) (by decide) ?_
            refine XS.iconst X2657.here hx rfl (hb hby at_260) ?_
            refine XS.goto X2657.here hx rfl (pc0 := 261) (pc' := 265) rfl (hb hby at_261) (by decide) (by decide) ?_
            refine XS.istore X2657.here hx rfl (hb hby at_265) rfl (l' := #[iv p0, iv p1, iv p2, iv p3, iv (3 : Int32), iv ln, rv r_2229, rv r_2232, iv s0, rv r_2239, rv r_2244, iv s1, rv r_2253, rv r_2260, iv s2, rv b2272, iv (1 : Int32), iv (1 : Int32)]) rfl ?_
            refine XS.iload X2657.here hx rfl (hb hby at_267) rfl ?_
            refine XS.ifNo X2657.here hx rfl (hb hby at_269) rfl (XT.i0_eq_f (by decide)) ?_
            refine XS.aload X2657.here hx rfl (hb hby at_272) rfl rfl ?_
            exact kt
          obtain ⟨cq2663, kq2663, q2663a, q2663b, q2663c⟩ := isOf hZ e2657 J2657_0
          obtain ⟨_, _, ⟨T2663, L2663, k2663, n2663⟩, -, X2663, ⟨Lc2663, hQ2663, l2663, y2663, z2663⟩, st2663⟩ := X2657.virtualBack hx (y := (⟨"com/example/homethread/homethread/cli/ScenarioReport", "exitStatus", "()I"⟩ : MethodName)) (z := (⟨"com/example/homethread/homethread/cli/ScenarioReport", "exitStatus", "()I"⟩ : MethodName)) hown (mvT hZ (W 82 rfl)) (mvT hZ (W 83 rfl)) (notFace_of_selects (args := #[]) (mvT hZ (W 85 rfl))) (mvT hZ (W 85 rfl)) (mvT hZ (W 84 rfl)) (by decide) (backOf (W := 0) (rm_exitStatus17_1 l Z a0 hw [] b2272 h2657 n0 O2657 F2661) hZ (W 86 rfl) (W 51 rfl) (by decide) (by decide)) q2663a q2663c (g := (mkF m 274 #[iv p0, iv p1, iv p2, iv p3, iv (3 : Int32), iv ln, rv r_2229, rv r_2232, iv s0, rv r_2239, rv r_2244, iv s1, rv r_2253, rv r_2260, iv s2, rv b2272, iv (1 : Int32), iv (1 : Int32)] [(.ref b2272)])) rfl (by rw [hml]; rfl) (Steps.refl _) (argsL := []) (rest := []) (lenOf pd_50 rfl) rfl (by show 2 * 0 + _ ≤ _; exact Nat.le_of_eq rfl) (hb hby at_274) (fun _ _ => ⟨rfl, e2657, (by decide : 21 + 0 ≤ _), (by decide : 63 + 0 ≤ _)⟩)
          dsimp only [Pt.U, Pt.locs, Pt.cells, Pt.slots] at X2663 l2663 y2663 z2663 st2663 hQ2663
          subst l2663 y2663 z2663
          obtain ⟨rfl, M2663, e2663⟩ := hQ2663
          have N2663 := Fr.app N2657 M2663
          have pre2664 : ∀ t, Steps p.tables e below (T2663.setTop (mkF m 277 #[iv p0, iv p1, iv p2, iv p3, iv (3 : Int32), iv ln, rv r_2229, rv r_2232, iv s0, rv r_2239, rv r_2244, iv s1, rv r_2253, rv r_2260, iv s2, rv b2272, iv (1 : Int32), iv (1 : Int32)] [(.int (1 : Int32))])) t → Steps p.tables e below (s₁.setTop (entryFrame m #[(.int p0), (.int p1), (.int p2), (.int p3)] maxLocals)) t := fun t kt => pre2662 _ (st2663.trans kt)
          have pre2665 : ∀ t, Steps p.tables e below (T2663.setTop (mkF m 279 #[iv p0, iv p1, iv p2, iv p3, iv (3 : Int32), iv ln, rv r_2229, rv r_2232, iv s0, rv r_2239, rv r_2244, iv s1, rv r_2253, rv r_2260, iv s2, rv b2272, iv (1 : Int32), iv (1 : Int32)] [(.int (1 : Int32)), (.int (1 : Int32))])) t → Steps p.tables e below (s₁.setTop (entryFrame m #[(.int p0), (.int p1), (.int p2), (.int p3)] maxLocals)) t := fun t kt => by
            refine pre2664 _ ?_
            show Steps p.tables e below (T2663.setTop (mkF m 277 #[iv p0, iv p1, iv p2, iv p3, iv (3 : Int32), iv ln, rv r_2229, rv r_2232, iv s0, rv r_2239, rv r_2244, iv s1, rv r_2253, rv r_2260, iv s2, rv b2272, iv (1 : Int32), iv (1 : Int32)] [(.int (1 : Int32))])) _
            refine XS.iload X2663.here hx rfl (hb hby at_277) rfl ?_
            exact kt
          obtain ⟨_, _, ⟨T2666, L2666, k2666, n2666⟩, -, X2666, ⟨Lc2666, hQ2666, l2666, y2666, z2666⟩, st2666⟩ := Jvm.LawKit.callS X2663 hx (y := (⟨"com/example/homethread/homethread/cli/ScenarioReportExitStatusPinLaw", "want", "(Z)I"⟩ : MethodName)) hown (mvT hZ (W 139 rfl)) (mvT hZ (W 140 rfl)) (mvT hZ (W 2 rfl)) (mvT hZ (W 141 rfl)) (by decide) (backOf (W := 1) (rm_want26_1 l Z a0 hw [] h2657 n0 O2657) hZ (W 141 rfl) (W 2 rfl) (by decide) (by decide)) (g := (mkF m 279 #[iv p0, iv p1, iv p2, iv p3, iv (3 : Int32), iv ln, rv r_2229, rv r_2232, iv s0, rv r_2239, rv r_2244, iv s1, rv r_2253, rv r_2260, iv s2, rv b2272, iv (1 : Int32), iv (1 : Int32)] [(.int (1 : Int32)), (.int (1 : Int32))])) rfl (by rw [hml]; rfl) (argsL := [(.int (1 : Int32))]) (rest := [(.int (1 : Int32))]) (lenOf pd_52 rfl) rfl (by show 2 * 0 + _ ≤ _; exact Nat.le_of_eq rfl) (hb hby at_279) (fun _ _ => ⟨rfl, e2663, (by decide : 21 + 0 ≤ _), (by decide : 63 + 0 ≤ _)⟩)
          dsimp only [Pt.U, Pt.locs, Pt.cells, Pt.slots] at X2666 l2666 y2666 z2666 st2666 hQ2666
          subst l2666 y2666 z2666
          obtain ⟨rfl, M2666, e2666⟩ := hQ2666
          have N2666 := Fr.app N2663 M2666
          have pre2667 : ∀ t, Steps p.tables e below (T2666.setTop (mkF m 282 #[iv p0, iv p1, iv p2, iv p3, iv (3 : Int32), iv ln, rv r_2229, rv r_2232, iv s0, rv r_2239, rv r_2244, iv s1, rv r_2253, rv r_2260, iv s2, rv b2272, iv (1 : Int32), iv (1 : Int32)] [(.int (1 : Int32)), (.int (1 : Int32))])) t → Steps p.tables e below (s₁.setTop (entryFrame m #[(.int p0), (.int p1), (.int p2), (.int p3)] maxLocals)) t := fun t kt => pre2665 _ (st2666 _ kt)
          have pre2668 : ∀ t, Steps p.tables e below (T2666.setTop (mkF m 299 #[iv p0, iv p1, iv p2, iv p3, iv (3 : Int32), iv ln, rv r_2229, rv r_2232, iv s0, rv r_2239, rv r_2244, iv s1, rv r_2253, rv r_2260, iv s2, rv b2272, iv (1 : Int32), iv (1 : Int32)] [(.ref b2272)])) t → Steps p.tables e below (s₁.setTop (entryFrame m #[(.int p0), (.int p1), (.int p2), (.int p3)] maxLocals)) t := fun t kt => by
            refine pre2667 _ ?_
            show Steps p.tables e below (T2666.setTop (mkF m 282 #[iv p0, iv p1, iv p2, iv p3, iv (3 : Int32), iv ln, rv r_2229, rv r_2232, iv s0, rv r_2239, rv r_2244, iv s1, rv r_2253, rv r_2260, iv s2, rv b2272, iv (1 : Int32), iv (1 : Int32)] [(.int (1 : Int32)), (.int (1 : Int32))])) _
            refine XS.icmpNo X2666.here hx rfl (hb hby at_282) rfl (XT.ii_ne_f (by decide)) ?_
            refine XS.iconst X2666.here hx rfl (hb hby at_285) ?_
            refine XS.goto X2666.here hx rfl (pc0 := 286) (pc' := 290) rfl (hb hby at_286) (by decide) (by decide) ?_
            refine XS.istore X2666.here hx rfl (hb hby at_290) rfl (l' := #[iv p0, iv p1, iv p2, iv p3, iv (3 : Int32), iv ln, rv r_2229, rv r_2232, iv s0, rv r_2239, rv r_2244, iv s1, rv r_2253, rv r_2260, iv s2, rv b2272, iv (1 : Int32), iv (1 : Int32)]) rfl ?_
            refine XS.iload X2666.here hx rfl (hb hby at_292) rfl ?_
            refine XS.ifNo X2666.here hx rfl (hb hby at_294) rfl (XT.i0_eq_f (by decide)) ?_
            refine XS.aload X2666.here hx rfl (hb hby at_297) rfl rfl ?_
            exact kt
          obtain ⟨cq2669, kq2669, q2669a, q2669b, q2669c⟩ := isOf hZ e2666 J2657_0
          obtain ⟨_, _, ⟨T2669, L2669, k2669, n2669⟩, -, X2669, ⟨Lc2669, hQ2669, l2669, y2669, z2669⟩, st2669⟩ := X2666.virtualBack hx (y := (⟨"com/example/homethread/homethread/cli/ScenarioReport", "exitStatus", "()I"⟩ : MethodName)) (z := (⟨"com/example/homethread/homethread/cli/ScenarioReport", "exitStatus", "()I"⟩ : MethodName)) hown (mvT hZ (W 82 rfl)) (mvT hZ (W 83 rfl)) (notFace_of_selects (args := #[]) (mvT hZ (W 85 rfl))) (mvT hZ (W 85 rfl)) (mvT hZ (W 84 rfl)) (by decide) (backOf (W := 0) (rm_exitStatus17_1 l Z a0 hw [] b2272 h2657 n0 O2657 F2661) hZ (W 86 rfl) (W 51 rfl) (by decide) (by decide)) q2669a q2669c (g := (mkF m 299 #[iv p0, iv p1, iv p2, iv p3, iv (3 : Int32), iv ln, rv r_2229, rv r_2232, iv s0, rv r_2239, rv r_2244, iv s1, rv r_2253, rv r_2260, iv s2, rv b2272, iv (1 : Int32), iv (1 : Int32)] [(.ref b2272)])) rfl (by rw [hml]; rfl) (Steps.refl _) (argsL := []) (rest := []) (lenOf pd_50 rfl) rfl (by show 2 * 0 + _ ≤ _; exact Nat.le_of_eq rfl) (hb hby at_299) (fun _ _ => ⟨rfl, e2666, (by decide : 21 + 0 ≤ _), (by decide : 63 + 0 ≤ _)⟩)
          dsimp only [Pt.U, Pt.locs, Pt.cells, Pt.slots] at X2669 l2669 y2669 z2669 st2669 hQ2669
          subst l2669 y2669 z2669
          obtain ⟨rfl, M2669, e2669⟩ := hQ2669
          have N2669 := Fr.app N2666 M2669
          have pre2670 : ∀ t, Steps p.tables e below (T2669.setTop (mkF m 302 #[iv p0, iv p1, iv p2, iv p3, iv (3 : Int32), iv ln, rv r_2229, rv r_2232, iv s0, rv r_2239, rv r_2244, iv s1, rv r_2253, rv r_2260, iv s2, rv b2272, iv (1 : Int32), iv (1 : Int32)] [(.int (1 : Int32))])) t → Steps p.tables e below (s₁.setTop (entryFrame m #[(.int p0), (.int p1), (.int p2), (.int p3)] maxLocals)) t := fun t kt => pre2668 _ (st2669.trans kt)
          have pre2671 : ∀ t, Steps p.tables e below (T2669.setTop (mkF m 304 #[iv p0, iv p1, iv p2, iv p3, iv (3 : Int32), iv ln, rv r_2229, rv r_2232, iv s0, rv r_2239, rv r_2244, iv s1, rv r_2253, rv r_2260, iv s2, rv b2272, iv (1 : Int32), iv (1 : Int32)] [(.int (1 : Int32)), (.int (1 : Int32))])) t → Steps p.tables e below (s₁.setTop (entryFrame m #[(.int p0), (.int p1), (.int p2), (.int p3)] maxLocals)) t := fun t kt => by
            refine pre2670 _ ?_
            show Steps p.tables e below (T2669.setTop (mkF m 302 #[iv p0, iv p1, iv p2, iv p3, iv (3 : Int32), iv ln, rv r_2229, rv r_2232, iv s0, rv r_2239, rv r_2244, iv s1, rv r_2253, rv r_2260, iv s2, rv b2272, iv (1 : Int32), iv (1 : Int32)] [(.int (1 : Int32))])) _
            refine XS.iload X2669.here hx rfl (hb hby at_302) rfl ?_
            exact kt
          obtain ⟨_, _, ⟨T2672, L2672, k2672, n2672⟩, -, X2672, ⟨Lc2672, hQ2672, l2672, y2672, z2672⟩, st2672⟩ := Jvm.LawKit.callS X2669 hx (y := (⟨"com/example/homethread/homethread/cli/ScenarioReportExitStatusPinLaw", "want", "(Z)I"⟩ : MethodName)) hown (mvT hZ (W 139 rfl)) (mvT hZ (W 140 rfl)) (mvT hZ (W 2 rfl)) (mvT hZ (W 141 rfl)) (by decide) (backOf (W := 1) (rm_want26_1 l Z a0 hw [] h2657 n0 O2657) hZ (W 141 rfl) (W 2 rfl) (by decide) (by decide)) (g := (mkF m 304 #[iv p0, iv p1, iv p2, iv p3, iv (3 : Int32), iv ln, rv r_2229, rv r_2232, iv s0, rv r_2239, rv r_2244, iv s1, rv r_2253, rv r_2260, iv s2, rv b2272, iv (1 : Int32), iv (1 : Int32)] [(.int (1 : Int32)), (.int (1 : Int32))])) rfl (by rw [hml]; rfl) (argsL := [(.int (1 : Int32))]) (rest := [(.int (1 : Int32))]) (lenOf pd_52 rfl) rfl (by show 2 * 0 + _ ≤ _; exact Nat.le_of_eq rfl) (hb hby at_304) (fun _ _ => ⟨rfl, e2669, (by decide : 21 + 0 ≤ _), (by decide : 63 + 0 ≤ _)⟩)
          dsimp only [Pt.U, Pt.locs, Pt.cells, Pt.slots] at X2672 l2672 y2672 z2672 st2672 hQ2672
          subst l2672 y2672 z2672
          obtain ⟨rfl, M2672, e2672⟩ := hQ2672
          have N2672 := Fr.app N2669 M2672
          have pre2673 : ∀ t, Steps p.tables e below (T2672.setTop (mkF m 307 #[iv p0, iv p1, iv p2, iv p3, iv (3 : Int32), iv ln, rv r_2229, rv r_2232, iv s0, rv r_2239, rv r_2244, iv s1, rv r_2253, rv r_2260, iv s2, rv b2272, iv (1 : Int32), iv (1 : Int32)] [(.int (1 : Int32)), (.int (1 : Int32))])) t → Steps p.tables e below (s₁.setTop (entryFrame m #[(.int p0), (.int p1), (.int p2), (.int p3)] maxLocals)) t := fun t kt => pre2671 _ (st2672 _ kt)
          have pre2674 : ∀ t, Steps p.tables e below (T2672.setTop (mkF m 319 #[iv p0, iv p1, iv p2, iv p3, iv (3 : Int32), iv ln, rv r_2229, rv r_2232, iv s0, rv r_2239, rv r_2244, iv s1, rv r_2253, rv r_2260, iv s2, rv b2272, iv (1 : Int32), iv (1 : Int32)] [(.int (1 : Int32))])) t → Steps p.tables e below (s₁.setTop (entryFrame m #[(.int p0), (.int p1), (.int p2), (.int p3)] maxLocals)) t := fun t kt => by
            refine pre2673 _ ?_
            show Steps p.tables e below (T2672.setTop (mkF m 307 #[iv p0, iv p1, iv p2, iv p3, iv (3 : Int32), iv ln, rv r_2229, rv r_2232, iv s0, rv r_2239, rv r_2244, iv s1, rv r_2253, rv r_2260, iv s2, rv b2272, iv (1 : Int32), iv (1 : Int32)] [(.int (1 : Int32)), (.int (1 : Int32))])) _
            refine XS.icmpNo X2672.here hx rfl (hb hby at_307) rfl (XT.ii_ne_f (by decide)) ?_
            refine XS.iconst X2672.here hx rfl (hb hby at_310) ?_
            refine XS.goto X2672.here hx rfl (pc0 := 311) (pc' := 315) rfl (hb hby at_311) (by decide) (by decide) ?_
            refine XS.istore X2672.here hx rfl (hb hby at_315) rfl (l' := #[iv p0, iv p1, iv p2, iv p3, iv (3 : Int32), iv ln, rv r_2229, rv r_2232, iv s0, rv r_2239, rv r_2244, iv s1, rv r_2253, rv r_2260, iv s2, rv b2272, iv (1 : Int32), iv (1 : Int32)]) rfl ?_
            refine XS.iload X2672.here hx rfl (hb hby at_317) rfl ?_
            exact kt
          obtain ⟨fs, hr, hrun, hended, hW, hsame⟩ := X2672.leave (v := some (.int (1 : Int32))) (fun h => by rw [Bd.returns] at h; cases h)
          refine ⟨_, _, pre2674 _ (retN X2672 hx (t := .boolean) Bd.returns (by simp) (hb hby at_319) hr), hrun, hended, _, _, rfl, ?_, ⟨_, rfl⟩, hW, hsame.mono (by decide) (by decide)⟩
          show Q_law Z p0 p1 p2 p3 cz ad kd h0 n0 _ T2672.heap _
          rw [e2672]
          exact ⟨rfl, N2672⟩
        · rw [← hs2] at hs2660a
          have F2675 : Fld Z h2657 b2272 "com/example/homethread/homethread/cli/ScenarioReport" "differs" "Z" (.int (1 : Int32)) := own_fldcast J2657_2 (own_dif1 hs2660b)
          have pre2676 : ∀ t, Steps p.tables e below (T2657.setTop (mkF m 274 #[iv p0, iv p1, iv p2, iv p3, iv (3 : Int32), iv ln, rv r_2229, rv r_2232, iv s0, rv r_2239, rv r_2244, iv s1, rv r_2253, rv r_2260, iv s2, rv b2272, iv (1 : Int32), iv (1 : Int32)] [(.ref b2272)])) t → Steps p.tables e below (s₁.setTop (entryFrame m #[(.int p0), (.int p1), (.int p2), (.int p3)] maxLocals)) t := fun t kt => by
            refine pre2658 _ ?_
            show Steps p.tables e below (T2657.setTop (mkF m 250 #[iv p0, iv p1, iv p2, iv p3, iv (3 : Int32), iv ln, rv r_2229, rv r_2232, iv s0, rv r_2239, rv r_2244, iv s1, rv r_2253, rv r_2260, iv s2, rv b2272, iv (1 : Int32), iv (1 : Int32)] [])) _
            refine XS.iload X2657.here hx rfl (hb hby at_250) rfl ?_
            refine XS.ifYes X2657.here hx rfl (pc0 := 252) (pc' := 260) rfl (hb hby at_252) rfl (XT.i0_ne_t (by decide)) (by decide) (by decide) ?_
            refine XS.iconst X2657.here hx rfl (hb hby at_260) ?_
            refine XS.goto X2657.here hx rfl (pc0 := 261) (pc' := 265) rfl (hb hby at_261) (by decide) (by decide) ?_
            refine XS.istore X2657.here hx rfl (hb hby at_265) rfl (l' := #[iv p0, iv p1, iv p2, iv p3, iv (3 : Int32), iv ln, rv r_2229, rv r_2232, iv s0, rv r_2239, rv r_2244, iv s1, rv r_2253, rv r_2260, iv s2, rv b2272, iv (1 : Int32), iv (1 : Int32)]) rfl ?_
            refine XS.iload X2657.here hx rfl (hb hby at_267) rfl ?_
            refine XS.ifNo X2657.here hx rfl (hb hby at_269) rfl (XT.i0_eq_f (by decide)) ?_
            refine XS.aload X2657.here hx rfl (hb hby at_272) rfl rfl ?_
            exact kt
          obtain ⟨cq2677, kq2677, q2677a, q2677b, q2677c⟩ := isOf hZ e2657 J2657_0
          obtain ⟨_, _, ⟨T2677, L2677, k2677, n2677⟩, -, X2677, ⟨Lc2677, hQ2677, l2677, y2677, z2677⟩, st2677⟩ := X2657.virtualBack hx (y := (⟨"com/example/homethread/homethread/cli/ScenarioReport", "exitStatus", "()I"⟩ : MethodName)) (z := (⟨"com/example/homethread/homethread/cli/ScenarioReport", "exitStatus", "()I"⟩ : MethodName)) hown (mvT hZ (W 82 rfl)) (mvT hZ (W 83 rfl)) (notFace_of_selects (args := #[]) (mvT hZ (W 85 rfl))) (mvT hZ (W 85 rfl)) (mvT hZ (W 84 rfl)) (by decide) (backOf (W := 0) (rm_exitStatus17_1 l Z a0 hw [] b2272 h2657 n0 O2657 F2675) hZ (W 86 rfl) (W 51 rfl) (by decide) (by decide)) q2677a q2677c (g := (mkF m 274 #[iv p0, iv p1, iv p2, iv p3, iv (3 : Int32), iv ln, rv r_2229, rv r_2232, iv s0, rv r_2239, rv r_2244, iv s1, rv r_2253, rv r_2260, iv s2, rv b2272, iv (1 : Int32), iv (1 : Int32)] [(.ref b2272)])) rfl (by rw [hml]; rfl) (Steps.refl _) (argsL := []) (rest := []) (lenOf pd_50 rfl) rfl (by show 2 * 0 + _ ≤ _; exact Nat.le_of_eq rfl) (hb hby at_274) (fun _ _ => ⟨rfl, e2657, (by decide : 21 + 0 ≤ _), (by decide : 63 + 0 ≤ _)⟩)
          dsimp only [Pt.U, Pt.locs, Pt.cells, Pt.slots] at X2677 l2677 y2677 z2677 st2677 hQ2677
          subst l2677 y2677 z2677
          obtain ⟨rfl, M2677, e2677⟩ := hQ2677
          have N2677 := Fr.app N2657 M2677
          have pre2678 : ∀ t, Steps p.tables e below (T2677.setTop (mkF m 277 #[iv p0, iv p1, iv p2, iv p3, iv (3 : Int32), iv ln, rv r_2229, rv r_2232, iv s0, rv r_2239, rv r_2244, iv s1, rv r_2253, rv r_2260, iv s2, rv b2272, iv (1 : Int32), iv (1 : Int32)] [(.int (1 : Int32))])) t → Steps p.tables e below (s₁.setTop (entryFrame m #[(.int p0), (.int p1), (.int p2), (.int p3)] maxLocals)) t := fun t kt => pre2676 _ (st2677.trans kt)
          have pre2679 : ∀ t, Steps p.tables e below (T2677.setTop (mkF m 279 #[iv p0, iv p1, iv p2, iv p3, iv (3 : Int32), iv ln, rv r_2229, rv r_2232, iv s0, rv r_2239, rv r_2244, iv s1, rv r_2253, rv r_2260, iv s2, rv b2272, iv (1 : Int32), iv (1 : Int32)] [(.int (1 : Int32)), (.int (1 : Int32))])) t → Steps p.tables e below (s₁.setTop (entryFrame m #[(.int p0), (.int p1), (.int p2), (.int p3)] maxLocals)) t := fun t kt => by
            refine pre2678 _ ?_
            show Steps p.tables e below (T2677.setTop (mkF m 277 #[iv p0, iv p1, iv p2, iv p3, iv (3 : Int32), iv ln, rv r_2229, rv r_2232, iv s0, rv r_2239, rv r_2244, iv s1, rv r_2253, rv r_2260, iv s2, rv b2272, iv (1 : Int32), iv (1 : Int32)] [(.int (1 : Int32))])) _
            refine XS.iload X2677.here hx rfl (hb hby at_277) rfl ?_
            exact kt
          obtain ⟨_, _, ⟨T2680, L2680, k2680, n2680⟩, -, X2680, ⟨Lc2680, hQ2680, l2680, y2680, z2680⟩, st2680⟩ := Jvm.LawKit.callS X2677 hx (y := (⟨"com/example/homethread/homethread/cli/ScenarioReportExitStatusPinLaw", "want", "(Z)I"⟩ : MethodName)) hown (mvT hZ (W 139 rfl)) (mvT hZ (W 140 rfl)) (mvT hZ (W 2 rfl)) (mvT hZ (W 141 rfl)) (by decide) (backOf (W := 1) (rm_want26_1 l Z a0 hw [] h2657 n0 O2657) hZ (W 141 rfl) (W 2 rfl) (by decide) (by decide)) (g := (mkF m 279 #[iv p0, iv p1, iv p2, iv p3, iv (3 : Int32), iv ln, rv r_2229, rv r_2232, iv s0, rv r_2239, rv r_2244, iv s1, rv r_2253, rv r_2260, iv s2, rv b2272, iv (1 : Int32), iv (1 : Int32)] [(.int (1 : Int32)), (.int (1 : Int32))])) rfl (by rw [hml]; rfl) (argsL := [(.int (1 : Int32))]) (rest := [(.int (1 : Int32))]) (lenOf pd_52 rfl) rfl (by show 2 * 0 + _ ≤ _; exact Nat.le_of_eq rfl) (hb hby at_279) (fun _ _ => ⟨rfl, e2677, (by decide : 21 + 0 ≤ _), (by decide : 63 + 0 ≤ _)⟩)
          dsimp only [Pt.U, Pt.locs, Pt.cells, Pt.slots] at X2680 l2680 y2680 z2680 st2680 hQ2680
          subst l2680 y2680 z2680
          obtain ⟨rfl, M2680, e2680⟩ := hQ2680
          have N2680 := Fr.app N2677 M2680
          have pre2681 : ∀ t, Steps p.tables e below (T2680.setTop (mkF m 282 #[iv p0, iv p1, iv p2, iv p3, iv (3 : Int32), iv ln, rv r_2229, rv r_2232, iv s0, rv r_2239, rv r_2244, iv s1, rv r_2253, rv r_2260, iv s2, rv b2272, iv (1 : Int32), iv (1 : Int32)] [(.int (1 : Int32)), (.int (1 : Int32))])) t → Steps p.tables e below (s₁.setTop (entryFrame m #[(.int p0), (.int p1), (.int p2), (.int p3)] maxLocals)) t := fun t kt => pre2679 _ (st2680 _ kt)
          have pre2682 : ∀ t, Steps p.tables e below (T2680.setTop (mkF m 299 #[iv p0, iv p1, iv p2, iv p3, iv (3 : Int32), iv ln, rv r_2229, rv r_2232, iv s0, rv r_2239, rv r_2244, iv s1, rv r_2253, rv r_2260, iv s2, rv b2272, iv (1 : Int32), iv (1 : Int32)] [(.ref b2272)])) t → Steps p.tables e below (s₁.setTop (entryFrame m #[(.int p0), (.int p1), (.int p2), (.int p3)] maxLocals)) t := fun t kt => by
            refine pre2681 _ ?_
            show Steps p.tables e below (T2680.setTop (mkF m 282 #[iv p0, iv p1, iv p2, iv p3, iv (3 : Int32), iv ln, rv r_2229, rv r_2232, iv s0, rv r_2239, rv r_2244, iv s1, rv r_2253, rv r_2260, iv s2, rv b2272, iv (1 : Int32), iv (1 : Int32)] [(.int (1 : Int32)), (.int (1 : Int32))])) _
            refine XS.icmpNo X2680.here hx rfl (hb hby at_282) rfl (XT.ii_ne_f (by decide)) ?_
            refine XS.iconst X2680.here hx rfl (hb hby at_285) ?_
            refine XS.goto X2680.here hx rfl (pc0 := 286) (pc' := 290) rfl (hb hby at_286) (by decide) (by decide) ?_
            refine XS.istore X2680.here hx rfl (hb hby at_290) rfl (l' := #[iv p0, iv p1, iv p2, iv p3, iv (3 : Int32), iv ln, rv r_2229, rv r_2232, iv s0, rv r_2239, rv r_2244, iv s1, rv r_2253, rv r_2260, iv s2, rv b2272, iv (1 : Int32), iv (1 : Int32)]) rfl ?_
            refine XS.iload X2680.here hx rfl (hb hby at_292) rfl ?_
            refine XS.ifNo X2680.here hx rfl (hb hby at_294) rfl (XT.i0_eq_f (by decide)) ?_
            refine XS.aload X2680.here hx rfl (hb hby at_297) rfl rfl ?_
            exact kt
          obtain ⟨cq2683, kq2683, q2683a, q2683b, q2683c⟩ := isOf hZ e2680 J2657_0
          obtain ⟨_, _, ⟨T2683, L2683, k2683, n2683⟩, -, X2683, ⟨Lc2683, hQ2683, l2683, y2683, z2683⟩, st2683⟩ := X2680.virtualBack hx (y := (⟨"com/example/homethread/homethread/cli/ScenarioReport", "exitStatus", "()I"⟩ : MethodName)) (z := (⟨"com/example/homethread/homethread/cli/ScenarioReport", "exitStatus", "()I"⟩ : MethodName)) hown (mvT hZ (W 82 rfl)) (mvT hZ (W 83 rfl)) (notFace_of_selects (args := #[]) (mvT hZ (W 85 rfl))) (mvT hZ (W 85 rfl)) (mvT hZ (W 84 rfl)) (by decide) (backOf (W := 0) (rm_exitStatus17_1 l Z a0 hw [] b2272 h2657 n0 O2657 F2675) hZ (W 86 rfl) (W 51 rfl) (by decide) (by decide)) q2683a q2683c (g := (mkF m 299 #[iv p0, iv p1, iv p2, iv p3, iv (3 : Int32), iv ln, rv r_2229, rv r_2232, iv s0, rv r_2239, rv r_2244, iv s1, rv r_2253, rv r_2260, iv s2, rv b2272, iv (1 : Int32), iv (1 : Int32)] [(.ref b2272)])) rfl (by rw [hml]; rfl) (Steps.refl _) (argsL := []) (rest := []) (lenOf pd_50 rfl) rfl (by show 2 * 0 + _ ≤ _; exact Nat.le_of_eq rfl) (hb hby at_299) (fun _ _ => ⟨rfl, e2680, (by decide : 21 + 0 ≤ _), (by decide : 63 + 0 ≤ _)⟩)
          dsimp only [Pt.U, Pt.locs, Pt.cells, Pt.slots] at X2683 l2683 y2683 z2683 st2683 hQ2683
          subst l2683 y2683 z2683
          obtain ⟨rfl, M2683, e2683⟩ := hQ2683
          have N2683 := Fr.app N2680 M2683
          have pre2684 : ∀ t, Steps p.tables e below (T2683.setTop (mkF m 302 #[iv p0, iv p1, iv p2, iv p3, iv (3 : Int32), iv ln, rv r_2229, rv r_2232, iv s0, rv r_2239, rv r_2244, iv s1, rv r_2253, rv r_2260, iv s2, rv b2272, iv (1 : Int32), iv (1 : Int32)] [(.int (1 : Int32))])) t → Steps p.tables e below (s₁.setTop (entryFrame m #[(.int p0), (.int p1), (.int p2), (.int p3)] maxLocals)) t := fun t kt => pre2682 _ (st2683.trans kt)
          have pre2685 : ∀ t, Steps p.tables e below (T2683.setTop (mkF m 304 #[iv p0, iv p1, iv p2, iv p3, iv (3 : Int32), iv ln, rv r_2229, rv r_2232, iv s0, rv r_2239, rv r_2244, iv s1, rv r_2253, rv r_2260, iv s2, rv b2272, iv (1 : Int32), iv (1 : Int32)] [(.int (1 : Int32)), (.int (1 : Int32))])) t → Steps p.tables e below (s₁.setTop (entryFrame m #[(.int p0), (.int p1), (.int p2), (.int p3)] maxLocals)) t := fun t kt => by
            refine pre2684 _ ?_
            show Steps p.tables e below (T2683.setTop (mkF m 302 #[iv p0, iv p1, iv p2, iv p3, iv (3 : Int32), iv ln, rv r_2229, rv r_2232, iv s0, rv r_2239, rv r_2244, iv s1, rv r_2253, rv r_2260, iv s2, rv b2272, iv (1 : Int32), iv (1 : Int32)] [(.int (1 : Int32))])) _
            refine XS.iload X2683.here hx rfl (hb hby at_302) rfl ?_
            exact kt
          obtain ⟨_, _, ⟨T2686, L2686, k2686, n2686⟩, -, X2686, ⟨Lc2686, hQ2686, l2686, y2686, z2686⟩, st2686⟩ := Jvm.LawKit.callS X2683 hx (y := (⟨"com/example/homethread/homethread/cli/ScenarioReportExitStatusPinLaw", "want", "(Z)I"⟩ : MethodName)) hown (mvT hZ (W 139 rfl)) (mvT hZ (W 140 rfl)) (mvT hZ (W 2 rfl)) (mvT hZ (W 141 rfl)) (by decide) (backOf (W := 1) (rm_want26_1 l Z a0 hw [] h2657 n0 O2657) hZ (W 141 rfl) (W 2 rfl) (by decide) (by decide)) (g := (mkF m 304 #[iv p0, iv p1, iv p2, iv p3, iv (3 : Int32), iv ln, rv r_2229, rv r_2232, iv s0, rv r_2239, rv r_2244, iv s1, rv r_2253, rv r_2260, iv s2, rv b2272, iv (1 : Int32), iv (1 : Int32)] [(.int (1 : Int32)), (.int (1 : Int32))])) rfl (by rw [hml]; rfl) (argsL := [(.int (1 : Int32))]) (rest := [(.int (1 : Int32))]) (lenOf pd_52 rfl) rfl (by show 2 * 0 + _ ≤ _; exact Nat.le_of_eq rfl) (hb hby at_304) (fun _ _ => ⟨rfl, e2683, (by decide : 21 + 0 ≤ _), (by decide : 63 + 0 ≤ _)⟩)
          dsimp only [Pt.U, Pt.locs, Pt.cells, Pt.slots] at X2686 l2686 y2686 z2686 st2686 hQ2686
          subst l2686 y2686 z2686
          obtain ⟨rfl, M2686, e2686⟩ := hQ2686
          have N2686 := Fr.app N2683 M2686
          have pre2687 : ∀ t, Steps p.tables e below (T2686.setTop (mkF m 307 #[iv p0, iv p1, iv p2, iv p3, iv (3 : Int32), iv ln, rv r_2229, rv r_2232, iv s0, rv r_2239, rv r_2244, iv s1, rv r_2253, rv r_2260, iv s2, rv b2272, iv (1 : Int32), iv (1 : Int32)] [(.int (1 : Int32)), (.int (1 : Int32))])) t → Steps p.tables e below (s₁.setTop (entryFrame m #[(.int p0), (.int p1), (.int p2), (.int p3)] maxLocals)) t := fun t kt => pre2685 _ (st2686 _ kt)
          have pre2688 : ∀ t, Steps p.tables e below (T2686.setTop (mkF m 319 #[iv p0, iv p1, iv p2, iv p3, iv (3 : Int32), iv ln, rv r_2229, rv r_2232, iv s0, rv r_2239, rv r_2244, iv s1, rv r_2253, rv r_2260, iv s2, rv b2272, iv (1 : Int32), iv (1 : Int32)] [(.int (1 : Int32))])) t → Steps p.tables e below (s₁.setTop (entryFrame m #[(.int p0), (.int p1), (.int p2), (.int p3)] maxLocals)) t := fun t kt => by
            refine pre2687 _ ?_
            show Steps p.tables e below (T2686.setTop (mkF m 307 #[iv p0, iv p1, iv p2, iv p3, iv (3 : Int32), iv ln, rv r_2229, rv r_2232, iv s0, rv r_2239, rv r_2244, iv s1, rv r_2253, rv r_2260, iv s2, rv b2272, iv (1 : Int32), iv (1 : Int32)] [(.int (1 : Int32)), (.int (1 : Int32))])) _
            refine XS.icmpNo X2686.here hx rfl (hb hby at_307) rfl (XT.ii_ne_f (by decide)) ?_
            refine XS.iconst X2686.here hx rfl (hb hby at_310) ?_
            refine XS.goto X2686.here hx rfl (pc0 := 311) (pc' := 315) rfl (hb hby at_311) (by decide) (by decide) ?_
            refine XS.istore X2686.here hx rfl (hb hby at_315) rfl (l' := #[iv p0, iv p1, iv p2, iv p3, iv (3 : Int32), iv ln, rv r_2229, rv r_2232, iv s0, rv r_2239, rv r_2244, iv s1, rv r_2253, rv r_2260, iv s2, rv b2272, iv (1 : Int32), iv (1 : Int32)]) rfl ?_
            refine XS.iload X2686.here hx rfl (hb hby at_317) rfl ?_
            exact kt
          obtain ⟨fs, hr, hrun, hended, hW, hsame⟩ := X2686.leave (v := some (.int (1 : Int32))) (fun h => by rw [Bd.returns] at h; cases h)
          refine ⟨_, _, pre2688 _ (retN X2686 hx (t := .boolean) Bd.returns (by simp) (hb hby at_319) hr), hrun, hended, _, _, rfl, ?_, ⟨_, rfl⟩, hW, hsame.mono (by decide) (by decide)⟩
          show Q_law Z p0 p1 p2 p3 cz ad kd h0 n0 _ T2686.heap _
          rw [e2686]
          exact ⟨rfl, N2686⟩
      · rw [← hs1] at hs2648a
        have F2689 : Fld Z h2645 b2272 "com/example/homethread/homethread/cli/ScenarioReport" "differs" "Z" (.int (1 : Int32)) := own_fldcast J2645_2 (own_dif1 hs2648b)
        have pre2690 : ∀ t, Steps p.tables e below (T2645.setTop (mkF m 217 #[iv p0, iv p1, iv p2, iv p3, iv (3 : Int32), iv ln, rv r_2229, rv r_2232, iv s0, rv r_2239, rv r_2244, iv s1, rv r_2253, rv r_2260, iv s2, rv b2272, iv (1 : Int32), iv (1 : Int32)] [(.ref b2272)])) t → Steps p.tables e below (s₁.setTop (entryFrame m #[(.int p0), (.int p1), (.int p2), (.int p3)] maxLocals)) t := fun t kt => by
          refine pre2646 _ ?_
          show Steps p.tables e below (T2645.setTop (mkF m 193 #[iv p0, iv p1, iv p2, iv p3, iv (3 : Int32), iv ln, rv r_2229, rv r_2232, iv s0, rv r_2239, rv r_2244, iv s1, rv r_2253, rv r_2260, iv s2, rv b2272, iv (1 : Int32), iv (1 : Int32)] [])) _
          refine XS.iload X2645.here hx rfl (hb hby at_193) rfl ?_
          refine XS.ifYes X2645.here hx rfl (pc0 := 195) (pc' := 203) rfl (hb hby at_195) rfl (XT.i0_ne_t (by decide)) (by decide) (by decide) ?_
          refine XS.iconst X2645.here hx rfl (hb hby at_203) ?_
          refine XS.goto X2645.here hx rfl (pc0 := 204) (pc' := 208) rfl (hb hby at_204) (by decide) (by decide) ?_
          refine XS.istore X2645.here hx rfl (hb hby at_208) rfl (l' := #[iv p0, iv p1, iv p2, iv p3, iv (3 : Int32), iv ln, rv r_2229, rv r_2232, iv s0, rv r_2239, rv r_2244, iv s1, rv r_2253, rv r_2260, iv s2, rv b2272, iv (1 : Int32), iv (1 : Int32)]) rfl ?_
          refine XS.iload X2645.here hx rfl (hb hby at_210) rfl ?_
          refine XS.ifNo X2645.here hx rfl (hb hby at_212) rfl (XT.i0_eq_f (by decide)) ?_
          refine XS.aload X2645.here hx rfl (hb hby at_215) rfl rfl ?_
          exact kt
        obtain ⟨cq2691, kq2691, q2691a, q2691b, q2691c⟩ := isOf hZ e2645 J2645_0
        obtain ⟨_, _, ⟨T2691, L2691, k2691, n2691⟩, -, X2691, ⟨Lc2691, hQ2691, l2691, y2691, z2691⟩, st2691⟩ := X2645.virtualBack hx (y := (⟨"com/example/homethread/homethread/cli/ScenarioReport", "exitStatus", "()I"⟩ : MethodName)) (z := (⟨"com/example/homethread/homethread/cli/ScenarioReport", "exitStatus", "()I"⟩ : MethodName)) hown (mvT hZ (W 82 rfl)) (mvT hZ (W 83 rfl)) (notFace_of_selects (args := #[]) (mvT hZ (W 85 rfl))) (mvT hZ (W 85 rfl)) (mvT hZ (W 84 rfl)) (by decide) (backOf (W := 0) (rm_exitStatus17_1 l Z a0 hw [] b2272 h2645 n0 O2645 F2689) hZ (W 86 rfl) (W 51 rfl) (by decide) (by decide)) q2691a q2691c (g := (mkF m 217 #[iv p0, iv p1, iv p2, iv p3, iv (3 : Int32), iv ln, rv r_2229, rv r_2232, iv s0, rv r_2239, rv r_2244, iv s1, rv r_2253, rv r_2260, iv s2, rv b2272, iv (1 : Int32), iv (1 : Int32)] [(.ref b2272)])) rfl (by rw [hml]; rfl) (Steps.refl _) (argsL := []) (rest := []) (lenOf pd_50 rfl) rfl (by show 2 * 0 + _ ≤ _; exact Nat.le_of_eq rfl) (hb hby at_217) (fun _ _ => ⟨rfl, e2645, (by decide : 21 + 0 ≤ _), (by decide : 63 + 0 ≤ _)⟩)
        dsimp only [Pt.U, Pt.locs, Pt.cells, Pt.slots] at X2691 l2691 y2691 z2691 st2691 hQ2691
        subst l2691 y2691 z2691
        obtain ⟨rfl, M2691, e2691⟩ := hQ2691
        have N2691 := Fr.app N2645 M2691
        have pre2692 : ∀ t, Steps p.tables e below (T2691.setTop (mkF m 220 #[iv p0, iv p1, iv p2, iv p3, iv (3 : Int32), iv ln, rv r_2229, rv r_2232, iv s0, rv r_2239, rv r_2244, iv s1, rv r_2253, rv r_2260, iv s2, rv b2272, iv (1 : Int32), iv (1 : Int32)] [(.int (1 : Int32))])) t → Steps p.tables e below (s₁.setTop (entryFrame m #[(.int p0), (.int p1), (.int p2), (.int p3)] maxLocals)) t := fun t kt => pre2690 _ (st2691.trans kt)
        have pre2693 : ∀ t, Steps p.tables e below (T2691.setTop (mkF m 222 #[iv p0, iv p1, iv p2, iv p3, iv (3 : Int32), iv ln, rv r_2229, rv r_2232, iv s0, rv r_2239, rv r_2244, iv s1, rv r_2253, rv r_2260, iv s2, rv b2272, iv (1 : Int32), iv (1 : Int32)] [(.int (1 : Int32)), (.int (1 : Int32))])) t → Steps p.tables e below (s₁.setTop (entryFrame m #[(.int p0), (.int p1), (.int p2), (.int p3)] maxLocals)) t := fun t kt => by
          refine pre2692 _ ?_
          show Steps p.tables e below (T2691.setTop (mkF m 220 #[iv p0, iv p1, iv p2, iv p3, iv (3 : Int32), iv ln, rv r_2229, rv r_2232, iv s0, rv r_2239, rv r_2244, iv s1, rv r_2253, rv r_2260, iv s2, rv b2272, iv (1 : Int32), iv (1 : Int32)] [(.int (1 : Int32))])) _
          refine XS.iload X2691.here hx rfl (hb hby at_220) rfl ?_
          exact kt
        obtain ⟨_, _, ⟨T2694, L2694, k2694, n2694⟩, -, X2694, ⟨Lc2694, hQ2694, l2694, y2694, z2694⟩, st2694⟩ := Jvm.LawKit.callS X2691 hx (y := (⟨"com/example/homethread/homethread/cli/ScenarioReportExitStatusPinLaw", "want", "(Z)I"⟩ : MethodName)) hown (mvT hZ (W 139 rfl)) (mvT hZ (W 140 rfl)) (mvT hZ (W 2 rfl)) (mvT hZ (W 141 rfl)) (by decide) (backOf (W := 1) (rm_want26_1 l Z a0 hw [] h2645 n0 O2645) hZ (W 141 rfl) (W 2 rfl) (by decide) (by decide)) (g := (mkF m 222 #[iv p0, iv p1, iv p2, iv p3, iv (3 : Int32), iv ln, rv r_2229, rv r_2232, iv s0, rv r_2239, rv r_2244, iv s1, rv r_2253, rv r_2260, iv s2, rv b2272, iv (1 : Int32), iv (1 : Int32)] [(.int (1 : Int32)), (.int (1 : Int32))])) rfl (by rw [hml]; rfl) (argsL := [(.int (1 : Int32))]) (rest := [(.int (1 : Int32))]) (lenOf pd_52 rfl) rfl (by show 2 * 0 + _ ≤ _; exact Nat.le_of_eq rfl) (hb hby at_222) (fun _ _ => ⟨rfl, e2691, (by decide : 21 + 0 ≤ _), (by decide : 63 + 0 ≤ _)⟩)
        dsimp only [Pt.U, Pt.locs, Pt.cells, Pt.slots] at X2694 l2694 y2694 z2694 st2694 hQ2694
        subst l2694 y2694 z2694
        obtain ⟨rfl, M2694, e2694⟩ := hQ2694
        have N2694 := Fr.app N2691 M2694
        have pre2695 : ∀ t, Steps p.tables e below (T2694.setTop (mkF m 225 #[iv p0, iv p1, iv p2, iv p3, iv (3 : Int32), iv ln, rv r_2229, rv r_2232, iv s0, rv r_2239, rv r_2244, iv s1, rv r_2253, rv r_2260, iv s2, rv b2272, iv (1 : Int32), iv (1 : Int32)] [(.int (1 : Int32)), (.int (1 : Int32))])) t → Steps p.tables e below (s₁.setTop (entryFrame m #[(.int p0), (.int p1), (.int p2), (.int p3)] maxLocals)) t := fun t kt => pre2693 _ (st2694 _ kt)
        have pre2696 : ∀ t, Steps p.tables e below (T2694.setTop (mkF m 247 #[iv p0, iv p1, iv p2, iv p3, iv (3 : Int32), iv ln, rv r_2229, rv r_2232, iv s0, rv r_2239, rv r_2244, iv s1, rv r_2253, rv r_2260, iv s2, rv b2272, iv (1 : Int32), iv (1 : Int32)] [(.ref r_2260), (.ref r_2253), (.ref b2272)])) t → Steps p.tables e below (s₁.setTop (entryFrame m #[(.int p0), (.int p1), (.int p2), (.int p3)] maxLocals)) t := fun t kt => by
          refine pre2695 _ ?_
          show Steps p.tables e below (T2694.setTop (mkF m 225 #[iv p0, iv p1, iv p2, iv p3, iv (3 : Int32), iv ln, rv r_2229, rv r_2232, iv s0, rv r_2239, rv r_2244, iv s1, rv r_2253, rv r_2260, iv s2, rv b2272, iv (1 : Int32), iv (1 : Int32)] [(.int (1 : Int32)), (.int (1 : Int32))])) _
          refine XS.icmpNo X2694.here hx rfl (hb hby at_225) rfl (XT.ii_ne_f (by decide)) ?_
          refine XS.iconst X2694.here hx rfl (hb hby at_228) ?_
          refine XS.goto X2694.here hx rfl (pc0 := 229) (pc' := 233) rfl (hb hby at_229) (by decide) (by decide) ?_
          refine XS.istore X2694.here hx rfl (hb hby at_233) rfl (l' := #[iv p0, iv p1, iv p2, iv p3, iv (3 : Int32), iv ln, rv r_2229, rv r_2232, iv s0, rv r_2239, rv r_2244, iv s1, rv r_2253, rv r_2260, iv s2, rv b2272, iv (1 : Int32), iv (1 : Int32)]) rfl ?_
          refine XS.iload X2694.here hx rfl (hb hby at_235) rfl ?_
          refine XS.iconst X2694.here hx rfl (hb hby at_237) ?_
          refine XS.icmpNo X2694.here hx rfl (hb hby at_238) rfl (XT.ii_lt_f (by decide)) ?_
          refine XS.aload X2694.here hx rfl (hb hby at_241) rfl rfl ?_
          show Steps p.tables e below (T2694.setTop (mkF m 243 #[iv p0, iv p1, iv p2, iv p3, iv (3 : Int32), iv ln, rv r_2229, rv r_2232, iv s0, rv r_2239, rv r_2244, iv s1, rv r_2253, rv r_2260, iv s2, rv b2272, iv (1 : Int32), iv (1 : Int32)] [(.ref b2272)])) _
          refine XS.aload X2694.here hx rfl (hb hby at_243) rfl rfl ?_
          refine XS.aload X2694.here hx rfl (hb hby at_245) rfl rfl ?_
          exact kt
        obtain ⟨cq2697, kq2697, q2697a, q2697b, q2697c⟩ := isOf hZ e2694 J2645_0
        obtain ⟨_, _, ⟨T2697, L2697, k2697, n2697⟩, -, X2697, ⟨Lc2697, hQ2697, l2697, y2697, z2697⟩, st2697⟩ := X2694.virtualBack hx (y := (⟨"com/example/homethread/homethread/cli/ScenarioReport", "expectLine", "(Ljava/lang/String;Ljava/lang/String;)V"⟩ : MethodName)) (z := (⟨"com/example/homethread/homethread/cli/ScenarioReport", "expectLine", "(Ljava/lang/String;Ljava/lang/String;)V"⟩ : MethodName)) hown (mvT hZ (W 89 rfl)) (mvT hZ (W 90 rfl)) (notFace_of_selects (args := #[]) (mvT hZ (W 92 rfl))) (mvT hZ (W 92 rfl)) (mvT hZ (W 91 rfl)) (by decide) (backOf (W := 0) (rm_line2 l Z a0 hw [] b2272 r_2253 r_2260 cz ad kd b2446_2279 ((((0 : Int32) + (1 : Int32)) + (1 : Int32))) ((1 : Int32)) ((l4 &&& (2 : Int32))) ((own_b ((p2 &&& (255 : Int32)) ^^^ (own_x0 p2)))) ((own_b ((((p2.toUInt32 >>> ((8 : Int32) &&& 31).toUInt32).toInt32) &&& (255 : Int32)) ^^^ (own_x1 p2)))) ((l4 &&& (1 : Int32))) ((own_b (p2 &&& (255 : Int32)))) ((own_b (((p2.toUInt32 >>> ((8 : Int32) &&& 31).toUInt32).toInt32) &&& (255 : Int32)))) na_2633 kna_2633 ((.ref r_2232)) ((.ref r_2244)) h2645 n0 O2645 G0 G1 G2 G3 g_b2272 g_b2446_2279 g_na_2633 J2645_0 J2645_1 F2689 J2645_3 J2645_4 J2645_5 J2645_6 J2645_7 J2645_8 J2645_9 qz (fun q => ne_r_2253_r_2260 q.symm) (Or.inr rfl) ne_b2272_b2446_2279 ne_b2272_na_2633 ne_b2446_2279_na_2633 h2260 XF2647 J2260_0 F2266 zF_b2272 zF_b2446_2279 zF_na_2633) hZ (W 93 rfl) (W 51 rfl) (by decide) (by decide)) q2697a q2697c (g := (mkF m 247 #[iv p0, iv p1, iv p2, iv p3, iv (3 : Int32), iv ln, rv r_2229, rv r_2232, iv s0, rv r_2239, rv r_2244, iv s1, rv r_2253, rv r_2260, iv s2, rv b2272, iv (1 : Int32), iv (1 : Int32)] [(.ref r_2260), (.ref r_2253), (.ref b2272)])) rfl (by rw [hml]; rfl) (Steps.refl _) (argsL := [(.ref r_2253), (.ref r_2260)]) (rest := []) (lenOf pd_53 rfl) rfl (by show 2 * 0 + _ ≤ _; exact Nat.le_of_eq rfl) (hb hby at_247) (fun _ _ => ⟨rfl, e2694, (by decide : 21 + 0 ≤ _), (by decide : 63 + 0 ≤ _)⟩)
        dsimp only [Pt.U, Pt.locs, Pt.cells, Pt.slots] at X2697 l2697 y2697 z2697 st2697 hQ2697
        subst l2697 y2697 z2697
        obtain ⟨rfl, M2697, Kc2697, O2697, J2697_0, J2697_1, J2697_2, J2697_3, J2697_4, J2697_5, J2697_6, J2697_7, J2697_8, J2697_9⟩ := hQ2697
        obtain ⟨h2697, e2697⟩ : ∃ z, T2697.heap = z := ⟨_, rfl⟩
        rw [e2697] at Kc2697 O2697 J2697_0 J2697_1 J2697_2 J2697_3 J2697_4 J2697_5 J2697_6 J2697_7 J2697_8
        have N2697 := Fr.app N2694 M2697
        have K2697 : Keep h0 h2697 [] := K2645.trans Kc2697 (own_all3 (Or.inr sz_b2272) (Or.inr sz_b2446_2279) (Or.inr sz_na_2633))
        have pre2698 : ∀ t, Steps p.tables e below (T2697.setTop (mkF m 250 #[iv p0, iv p1, iv p2, iv p3, iv (3 : Int32), iv ln, rv r_2229, rv r_2232, iv s0, rv r_2239, rv r_2244, iv s1, rv r_2253, rv r_2260, iv s2, rv b2272, iv (1 : Int32), iv (1 : Int32)] [])) t → Steps p.tables e below (s₁.setTop (entryFrame m #[(.int p0), (.int p1), (.int p2), (.int p3)] maxLocals)) t := fun t kt => pre2696 _ (st2697.trans kt)
        have XF2699 : Ext h2260 h2697 := own_ext_keep XF2647 Kc2697 (own_all3 zF_b2272 zF_b2446_2279 zF_na_2633)
        rcases own_sync p2 l4 with ⟨hs2700a, hs2700b⟩ | ⟨hs2700a, hs2700b⟩
        · rw [← hs2] at hs2700a
          have F2701 : Fld Z h2697 b2272 "com/example/homethread/homethread/cli/ScenarioReport" "differs" "Z" (.int (1 : Int32)) := own_fldcast J2697_2 (own_dif0 hs2700b)
          have pre2702 : ∀ t, Steps p.tables e below (T2697.setTop (mkF m 274 #[iv p0, iv p1, iv p2, iv p3, iv (3 : Int32), iv ln, rv r_2229, rv r_2232, iv s0, rv r_2239, rv r_2244, iv s1, rv r_2253, rv r_2260, iv s2, rv b2272, iv (1 : Int32), iv (1 : Int32)] [(.ref b2272)])) t → Steps p.tables e below (s₁.setTop (entryFrame m #[(.int p0), (.int p1), (.int p2), (.int p3)] maxLocals)) t := fun t kt => by
            refine pre2698 _ ?_
            show Steps p.tables e below (T2697.setTop (mkF m 250 #[iv p0, iv p1, iv p2, iv p3, iv (3 : Int32), iv ln, rv r_2229, rv r_2232, iv s0, rv r_2239, rv r_2244, iv s1, rv r_2253, rv r_2260, iv s2, rv b2272, iv (1 : Int32), iv (1 : Int32)] [])) _
            refine XS.iload X2697.here hx rfl (hb hby at_250) rfl ?_
            refine XS.ifYes X2697.here hx rfl (pc0 := 252) (pc' := 260) rfl (hb hby at_252) rfl (XT.i0_ne_t (by decide)) (by decide) (by decide) ?_
            refine XS.iconst X2697.here hx rfl (hb hby at_260) ?_
            refine XS.goto X2697.here hx rfl (pc0 := 261) (pc' := 265) rfl (hb hby at_261) (by decide) (by decide) ?_
            refine XS.istore X2697.here hx rfl (hb hby at_265) rfl (l' := #[iv p0, iv p1, iv p2, iv p3, iv (3 : Int32), iv ln, rv r_2229, rv r_2232, iv s0, rv r_2239, rv r_2244, iv s1, rv r_2253, rv r_2260, iv s2, rv b2272, iv (1 : Int32), iv (1 : Int32)]) rfl ?_
            refine XS.iload X2697.here hx rfl (hb hby at_267) rfl ?_
            refine XS.ifNo X2697.here hx rfl (hb hby at_269) rfl (XT.i0_eq_f (by decide)) ?_
            refine XS.aload X2697.here hx rfl (hb hby at_272) rfl rfl ?_
            exact kt
          obtain ⟨cq2703, kq2703, q2703a, q2703b, q2703c⟩ := isOf hZ e2697 J2697_0
          obtain ⟨_, _, ⟨T2703, L2703, k2703, n2703⟩, -, X2703, ⟨Lc2703, hQ2703, l2703, y2703, z2703⟩, st2703⟩ := X2697.virtualBack hx (y := (⟨"com/example/homethread/homethread/cli/ScenarioReport", "exitStatus", "()I"⟩ : MethodName)) (z := (⟨"com/example/homethread/homethread/cli/ScenarioReport", "exitStatus", "()I"⟩ : MethodName)) hown (mvT hZ (W 82 rfl)) (mvT hZ (W 83 rfl)) (notFace_of_selects (args := #[]) (mvT hZ (W 85 rfl))) (mvT hZ (W 85 rfl)) (mvT hZ (W 84 rfl)) (by decide) (backOf (W := 0) (rm_exitStatus17_1 l Z a0 hw [] b2272 h2697 n0 O2697 F2701) hZ (W 86 rfl) (W 51 rfl) (by decide) (by decide)) q2703a q2703c (g := (mkF m 274 #[iv p0, iv p1, iv p2, iv p3, iv (3 : Int32), iv ln, rv r_2229, rv r_2232, iv s0, rv r_2239, rv r_2244, iv s1, rv r_2253, rv r_2260, iv s2, rv b2272, iv (1 : Int32), iv (1 : Int32)] [(.ref b2272)])) rfl (by rw [hml]; rfl) (Steps.refl _) (argsL := []) (rest := []) (lenOf pd_50 rfl) rfl (by show 2 * 0 + _ ≤ _; exact Nat.le_of_eq rfl) (hb hby at_274) (fun _ _ => ⟨rfl, e2697, (by decide : 21 + 0 ≤ _), (by decide : 63 + 0 ≤ _)⟩)
          dsimp only [Pt.U, Pt.locs, Pt.cells, Pt.slots] at X2703 l2703 y2703 z2703 st2703 hQ2703
          subst l2703 y2703 z2703
          obtain ⟨rfl, M2703, e2703⟩ := hQ2703
          have N2703 := Fr.app N2697 M2703
          have pre2704 : ∀ t, Steps p.tables e below (T2703.setTop (mkF m 277 #[iv p0, iv p1, iv p2, iv p3, iv (3 : Int32), iv ln, rv r_2229, rv r_2232, iv s0, rv r_2239, rv r_2244, iv s1, rv r_2253, rv r_2260, iv s2, rv b2272, iv (1 : Int32), iv (1 : Int32)] [(.int (1 : Int32))])) t → Steps p.tables e below (s₁.setTop (entryFrame m #[(.int p0), (.int p1), (.int p2), (.int p3)] maxLocals)) t := fun t kt => pre2702 _ (st2703.trans kt)
          have pre2705 : ∀ t, Steps p.tables e below (T2703.setTop (mkF m 279 #[iv p0, iv p1, iv p2, iv p3, iv (3 : Int32), iv ln, rv r_2229, rv r_2232, iv s0, rv r_2239, rv r_2244, iv s1, rv r_2253, rv r_2260, iv s2, rv b2272, iv (1 : Int32), iv (1 : Int32)] [(.int (1 : Int32)), (.int (1 : Int32))])) t → Steps p.tables e below (s₁.setTop (entryFrame m #[(.int p0), (.int p1), (.int p2), (.int p3)] maxLocals)) t := fun t kt => by
            refine pre2704 _ ?_
            show Steps p.tables e below (T2703.setTop (mkF m 277 #[iv p0, iv p1, iv p2, iv p3, iv (3 : Int32), iv ln, rv r_2229, rv r_2232, iv s0, rv r_2239, rv r_2244, iv s1, rv r_2253, rv r_2260, iv s2, rv b2272, iv (1 : Int32), iv (1 : Int32)] [(.int (1 : Int32))])) _
            refine XS.iload X2703.here hx rfl (hb hby at_277) rfl ?_
            exact kt
          obtain ⟨_, _, ⟨T2706, L2706, k2706, n2706⟩, -, X2706, ⟨Lc2706, hQ2706, l2706, y2706, z2706⟩, st2706⟩ := Jvm.LawKit.callS X2703 hx (y := (⟨"com/example/homethread/homethread/cli/ScenarioReportExitStatusPinLaw", "want", "(Z)I"⟩ : MethodName)) hown (mvT hZ (W 139 rfl)) (mvT hZ (W 140 rfl)) (mvT hZ (W 2 rfl)) (mvT hZ (W 141 rfl)) (by decide) (backOf (W := 1) (rm_want26_1 l Z a0 hw [] h2697 n0 O2697) hZ (W 141 rfl) (W 2 rfl) (by decide) (by decide)) (g := (mkF m 279 #[iv p0, iv p1, iv p2, iv p3, iv (3 : Int32), iv ln, rv r_2229, rv r_2232, iv s0, rv r_2239, rv r_2244, iv s1, rv r_2253, rv r_2260, iv s2, rv b2272, iv (1 : Int32), iv (1 : Int32)] [(.int (1 : Int32)), (.int (1 : Int32))])) rfl (by rw [hml]; rfl) (argsL := [(.int (1 : Int32))]) (rest := [(.int (1 : Int32))]) (lenOf pd_52 rfl) rfl (by show 2 * 0 + _ ≤ _; exact Nat.le_of_eq rfl) (hb hby at_279) (fun _ _ => ⟨rfl, e2703, (by decide : 21 + 0 ≤ _), (by decide : 63 + 0 ≤ _)⟩)
          dsimp only [Pt.U, Pt.locs, Pt.cells, Pt.slots] at X2706 l2706 y2706 z2706 st2706 hQ2706
          subst l2706 y2706 z2706
          obtain ⟨rfl, M2706, e2706⟩ := hQ2706
          have N2706 := Fr.app N2703 M2706
          have pre2707 : ∀ t, Steps p.tables e below (T2706.setTop (mkF m 282 #[iv p0, iv p1, iv p2, iv p3, iv (3 : Int32), iv ln, rv r_2229, rv r_2232, iv s0, rv r_2239, rv r_2244, iv s1, rv r_2253, rv r_2260, iv s2, rv b2272, iv (1 : Int32), iv (1 : Int32)] [(.int (1 : Int32)), (.int (1 : Int32))])) t → Steps p.tables e below (s₁.setTop (entryFrame m #[(.int p0), (.int p1), (.int p2), (.int p3)] maxLocals)) t := fun t kt => pre2705 _ (st2706 _ kt)
          have pre2708 : ∀ t, Steps p.tables e below (T2706.setTop (mkF m 299 #[iv p0, iv p1, iv p2, iv p3, iv (3 : Int32), iv ln, rv r_2229, rv r_2232, iv s0, rv r_2239, rv r_2244, iv s1, rv r_2253, rv r_2260, iv s2, rv b2272, iv (1 : Int32), iv (1 : Int32)] [(.ref b2272)])) t → Steps p.tables e below (s₁.setTop (entryFrame m #[(.int p0), (.int p1), (.int p2), (.int p3)] maxLocals)) t := fun t kt => by
            refine pre2707 _ ?_
            show Steps p.tables e below (T2706.setTop (mkF m 282 #[iv p0, iv p1, iv p2, iv p3, iv (3 : Int32), iv ln, rv r_2229, rv r_2232, iv s0, rv r_2239, rv r_2244, iv s1, rv r_2253, rv r_2260, iv s2, rv b2272, iv (1 : Int32), iv (1 : Int32)] [(.int (1 : Int32)), (.int (1 : Int32))])) _
            refine XS.icmpNo X2706.here hx rfl (hb hby at_282) rfl (XT.ii_ne_f (by decide)) ?_
            refine XS.iconst X2706.here hx rfl (hb hby at_285) ?_
            refine XS.goto X2706.here hx rfl (pc0 := 286) (pc' := 290) rfl (hb hby at_286) (by decide) (by decide) ?_
            refine XS.istore X2706.here hx rfl (hb hby at_290) rfl (l' := #[iv p0, iv p1, iv p2, iv p3, iv (3 : Int32), iv ln, rv r_2229, rv r_2232, iv s0, rv r_2239, rv r_2244, iv s1, rv r_2253, rv r_2260, iv s2, rv b2272, iv (1 : Int32), iv (1 : Int32)]) rfl ?_
            refine XS.iload X2706.here hx rfl (hb hby at_292) rfl ?_
            refine XS.ifNo X2706.here hx rfl (hb hby at_294) rfl (XT.i0_eq_f (by decide)) ?_
            refine XS.aload X2706.here hx rfl (hb hby at_297) rfl rfl ?_
            exact kt
          obtain ⟨cq2709, kq2709, q2709a, q2709b, q2709c⟩ := isOf hZ e2706 J2697_0
          obtain ⟨_, _, ⟨T2709, L2709, k2709, n2709⟩, -, X2709, ⟨Lc2709, hQ2709, l2709, y2709, z2709⟩, st2709⟩ := X2706.virtualBack hx (y := (⟨"com/example/homethread/homethread/cli/ScenarioReport", "exitStatus", "()I"⟩ : MethodName)) (z := (⟨"com/example/homethread/homethread/cli/ScenarioReport", "exitStatus", "()I"⟩ : MethodName)) hown (mvT hZ (W 82 rfl)) (mvT hZ (W 83 rfl)) (notFace_of_selects (args := #[]) (mvT hZ (W 85 rfl))) (mvT hZ (W 85 rfl)) (mvT hZ (W 84 rfl)) (by decide) (backOf (W := 0) (rm_exitStatus17_1 l Z a0 hw [] b2272 h2697 n0 O2697 F2701) hZ (W 86 rfl) (W 51 rfl) (by decide) (by decide)) q2709a q2709c (g := (mkF m 299 #[iv p0, iv p1, iv p2, iv p3, iv (3 : Int32), iv ln, rv r_2229, rv r_2232, iv s0, rv r_2239, rv r_2244, iv s1, rv r_2253, rv r_2260, iv s2, rv b2272, iv (1 : Int32), iv (1 : Int32)] [(.ref b2272)])) rfl (by rw [hml]; rfl) (Steps.refl _) (argsL := []) (rest := []) (lenOf pd_50 rfl) rfl (by show 2 * 0 + _ ≤ _; exact Nat.le_of_eq rfl) (hb hby at_299) (fun _ _ => ⟨rfl, e2706, (by decide : 21 + 0 ≤ _), (by decide : 63 + 0 ≤ _)⟩)
          dsimp only [Pt.U, Pt.locs, Pt.cells, Pt.slots] at X2709 l2709 y2709 z2709 st2709 hQ2709
          subst l2709 y2709 z2709
          obtain ⟨rfl, M2709, e2709⟩ := hQ2709
          have N2709 := Fr.app N2706 M2709
          have pre2710 : ∀ t, Steps p.tables e below (T2709.setTop (mkF m 302 #[iv p0, iv p1, iv p2, iv p3, iv (3 : Int32), iv ln, rv r_2229, rv r_2232, iv s0, rv r_2239, rv r_2244, iv s1, rv r_2253, rv r_2260, iv s2, rv b2272, iv (1 : Int32), iv (1 : Int32)] [(.int (1 : Int32))])) t → Steps p.tables e below (s₁.setTop (entryFrame m #[(.int p0), (.int p1), (.int p2), (.int p3)] maxLocals)) t := fun t kt => pre2708 _ (st2709.trans kt)
          have pre2711 : ∀ t, Steps p.tables e below (T2709.setTop (mkF m 304 #[iv p0, iv p1, iv p2, iv p3, iv (3 : Int32), iv ln, rv r_2229, rv r_2232, iv s0, rv r_2239, rv r_2244, iv s1, rv r_2253, rv r_2260, iv s2, rv b2272, iv (1 : Int32), iv (1 : Int32)] [(.int (1 : Int32)), (.int (1 : Int32))])) t → Steps p.tables e below (s₁.setTop (entryFrame m #[(.int p0), (.int p1), (.int p2), (.int p3)] maxLocals)) t := fun t kt => by
            refine pre2710 _ ?_
            show Steps p.tables e below (T2709.setTop (mkF m 302 #[iv p0, iv p1, iv p2, iv p3, iv (3 : Int32), iv ln, rv r_2229, rv r_2232, iv s0, rv r_2239, rv r_2244, iv s1, rv r_2253, rv r_2260, iv s2, rv b2272, iv (1 : Int32), iv (1 : Int32)] [(.int (1 : Int32))])) _
            refine XS.iload X2709.here hx rfl (hb hby at_302) rfl ?_
            exact kt
          obtain ⟨_, _, ⟨T2712, L2712, k2712, n2712⟩, -, X2712, ⟨Lc2712, hQ2712, l2712, y2712, z2712⟩, st2712⟩ := Jvm.LawKit.callS X2709 hx (y := (⟨"com/example/homethread/homethread/cli/ScenarioReportExitStatusPinLaw", "want", "(Z)I"⟩ : MethodName)) hown (mvT hZ (W 139 rfl)) (mvT hZ (W 140 rfl)) (mvT hZ (W 2 rfl)) (mvT hZ (W 141 rfl)) (by decide) (backOf (W := 1) (rm_want26_1 l Z a0 hw [] h2697 n0 O2697) hZ (W 141 rfl) (W 2 rfl) (by decide) (by decide)) (g := (mkF m 304 #[iv p0, iv p1, iv p2, iv p3, iv (3 : Int32), iv ln, rv r_2229, rv r_2232, iv s0, rv r_2239, rv r_2244, iv s1, rv r_2253, rv r_2260, iv s2, rv b2272, iv (1 : Int32), iv (1 : Int32)] [(.int (1 : Int32)), (.int (1 : Int32))])) rfl (by rw [hml]; rfl) (argsL := [(.int (1 : Int32))]) (rest := [(.int (1 : Int32))]) (lenOf pd_52 rfl) rfl (by show 2 * 0 + _ ≤ _; exact Nat.le_of_eq rfl) (hb hby at_304) (fun _ _ => ⟨rfl, e2709, (by decide : 21 + 0 ≤ _), (by decide : 63 + 0 ≤ _)⟩)
          dsimp only [Pt.U, Pt.locs, Pt.cells, Pt.slots] at X2712 l2712 y2712 z2712 st2712 hQ2712
          subst l2712 y2712 z2712
          obtain ⟨rfl, M2712, e2712⟩ := hQ2712
          have N2712 := Fr.app N2709 M2712
          have pre2713 : ∀ t, Steps p.tables e below (T2712.setTop (mkF m 307 #[iv p0, iv p1, iv p2, iv p3, iv (3 : Int32), iv ln, rv r_2229, rv r_2232, iv s0, rv r_2239, rv r_2244, iv s1, rv r_2253, rv r_2260, iv s2, rv b2272, iv (1 : Int32), iv (1 : Int32)] [(.int (1 : Int32)), (.int (1 : Int32))])) t → Steps p.tables e below (s₁.setTop (entryFrame m #[(.int p0), (.int p1), (.int p2), (.int p3)] maxLocals)) t := fun t kt => pre2711 _ (st2712 _ kt)
          have pre2714 : ∀ t, Steps p.tables e below (T2712.setTop (mkF m 319 #[iv p0, iv p1, iv p2, iv p3, iv (3 : Int32), iv ln, rv r_2229, rv r_2232, iv s0, rv r_2239, rv r_2244, iv s1, rv r_2253, rv r_2260, iv s2, rv b2272, iv (1 : Int32), iv (1 : Int32)] [(.int (1 : Int32))])) t → Steps p.tables e below (s₁.setTop (entryFrame m #[(.int p0), (.int p1), (.int p2), (.int p3)] maxLocals)) t := fun t kt => by
            refine pre2713 _ ?_
            show Steps p.tables e below (T2712.setTop (mkF m 307 #[iv p0, iv p1, iv p2, iv p3, iv (3 : Int32), iv ln, rv r_2229, rv r_2232, iv s0, rv r_2239, rv r_2244, iv s1, rv r_2253, rv r_2260, iv s2, rv b2272, iv (1 : Int32), iv (1 : Int32)] [(.int (1 : Int32)), (.int (1 : Int32))])) _
            refine XS.icmpNo X2712.here hx rfl (hb hby at_307) rfl (XT.ii_ne_f (by decide)) ?_
            refine XS.iconst X2712.here hx rfl (hb hby at_310) ?_
            refine XS.goto X2712.here hx rfl (pc0 := 311) (pc' := 315) rfl (hb hby at_311) (by decide) (by decide) ?_
            refine XS.istore X2712.here hx rfl (hb hby at_315) rfl (l' := #[iv p0, iv p1, iv p2, iv p3, iv (3 : Int32), iv ln, rv r_2229, rv r_2232, iv s0, rv r_2239, rv r_2244, iv s1, rv r_2253, rv r_2260, iv s2, rv b2272, iv (1 : Int32), iv (1 : Int32)]) rfl ?_
            refine XS.iload X2712.here hx rfl (hb hby at_317) rfl ?_
            exact kt
          obtain ⟨fs, hr, hrun, hended, hW, hsame⟩ := X2712.leave (v := some (.int (1 : Int32))) (fun h => by rw [Bd.returns] at h; cases h)
          refine ⟨_, _, pre2714 _ (retN X2712 hx (t := .boolean) Bd.returns (by simp) (hb hby at_319) hr), hrun, hended, _, _, rfl, ?_, ⟨_, rfl⟩, hW, hsame.mono (by decide) (by decide)⟩
          show Q_law Z p0 p1 p2 p3 cz ad kd h0 n0 _ T2712.heap _
          rw [e2712]
          exact ⟨rfl, N2712⟩
        · rw [← hs2] at hs2700a
          have F2715 : Fld Z h2697 b2272 "com/example/homethread/homethread/cli/ScenarioReport" "differs" "Z" (.int (1 : Int32)) := own_fldcast J2697_2 (own_dif1 hs2700b)
          have pre2716 : ∀ t, Steps p.tables e below (T2697.setTop (mkF m 274 #[iv p0, iv p1, iv p2, iv p3, iv (3 : Int32), iv ln, rv r_2229, rv r_2232, iv s0, rv r_2239, rv r_2244, iv s1, rv r_2253, rv r_2260, iv s2, rv b2272, iv (1 : Int32), iv (1 : Int32)] [(.ref b2272)])) t → Steps p.tables e below (s₁.setTop (entryFrame m #[(.int p0), (.int p1), (.int p2), (.int p3)] maxLocals)) t := fun t kt => by
            refine pre2698 _ ?_
            show Steps p.tables e below (T2697.setTop (mkF m 250 #[iv p0, iv p1, iv p2, iv p3, iv (3 : Int32), iv ln, rv r_2229, rv r_2232, iv s0, rv r_2239, rv r_2244, iv s1, rv r_2253, rv r_2260, iv s2, rv b2272, iv (1 : Int32), iv (1 : Int32)] [])) _
            refine XS.iload X2697.here hx rfl (hb hby at_250) rfl ?_
            refine XS.ifYes X2697.here hx rfl (pc0 := 252) (pc' := 260) rfl (hb hby at_252) rfl (XT.i0_ne_t (by decide)) (by decide) (by decide) ?_
            refine XS.iconst X2697.here hx rfl (hb hby at_260) ?_
            refine XS.goto X2697.here hx rfl (pc0 := 261) (pc' := 265) rfl (hb hby at_261) (by decide) (by decide) ?_
            refine XS.istore X2697.here hx rfl (hb hby at_265) rfl (l' := #[iv p0, iv p1, iv p2, iv p3, iv (3 : Int32), iv ln, rv r_2229, rv r_2232, iv s0, rv r_2239, rv r_2244, iv s1, rv r_2253, rv r_2260, iv s2, rv b2272, iv (1 : Int32), iv (1 : Int32)]) rfl ?_
            refine XS.iload X2697.here hx rfl (hb hby at_267) rfl ?_
            refine XS.ifNo X2697.here hx rfl (hb hby at_269) rfl (XT.i0_eq_f (by decide)) ?_
            refine XS.aload X2697.here hx rfl (hb hby at_272) rfl rfl ?_
            exact kt
          obtain ⟨cq2717, kq2717, q2717a, q2717b, q2717c⟩ := isOf hZ e2697 J2697_0
          obtain ⟨_, _, ⟨T2717, L2717, k2717, n2717⟩, -, X2717, ⟨Lc2717, hQ2717, l2717, y2717, z2717⟩, st2717⟩ := X2697.virtualBack hx (y := (⟨"com/example/homethread/homethread/cli/ScenarioReport", "exitStatus", "()I"⟩ : MethodName)) (z := (⟨"com/example/homethread/homethread/cli/ScenarioReport", "exitStatus", "()I"⟩ : MethodName)) hown (mvT hZ (W 82 rfl)) (mvT hZ (W 83 rfl)) (notFace_of_selects (args := #[]) (mvT hZ (W 85 rfl))) (mvT hZ (W 85 rfl)) (mvT hZ (W 84 rfl)) (by decide) (backOf (W := 0) (rm_exitStatus17_1 l Z a0 hw [] b2272 h2697 n0 O2697 F2715) hZ (W 86 rfl) (W 51 rfl) (by decide) (by decide)) q2717a q2717c (g := (mkF m 274 #[iv p0, iv p1, iv p2, iv p3, iv (3 : Int32), iv ln, rv r_2229, rv r_2232, iv s0, rv r_2239, rv r_2244, iv s1, rv r_2253, rv r_2260, iv s2, rv b2272, iv (1 : Int32), iv (1 : Int32)] [(.ref b2272)])) rfl (by rw [hml]; rfl) (Steps.refl _) (argsL := []) (rest := []) (lenOf pd_50 rfl) rfl (by show 2 * 0 + _ ≤ _; exact Nat.le_of_eq rfl) (hb hby at_274) (fun _ _ => ⟨rfl, e2697, (by decide : 21 + 0 ≤ _), (by decide : 63 + 0 ≤ _)⟩)
          dsimp only [Pt.U, Pt.locs, Pt.cells, Pt.slots] at X2717 l2717 y2717 z2717 st2717 hQ2717
          subst l2717 y2717 z2717
          obtain ⟨rfl, M2717, e2717⟩ := hQ2717
          have N2717 := Fr.app N2697 M2717
          have pre2718 : ∀ t, Steps p.tables e below (T2717.setTop (mkF m 277 #[iv p0, iv p1, iv p2, iv p3, iv (3 : Int32), iv ln, rv r_2229, rv r_2232, iv s0, rv r_2239, rv r_2244, iv s1, rv r_2253, rv r_2260, iv s2, rv b2272, iv (1 : Int32), iv (1 : Int32)] [(.int (1 : Int32))])) t → Steps p.tables e below (s₁.setTop (entryFrame m #[(.int p0), (.int p1), (.int p2), (.int p3)] maxLocals)) t := fun t kt => pre2716 _ (st2717.trans kt)
          have pre2719 : ∀ t, Steps p.tables e below (T2717.setTop (mkF m 279 #[iv p0, iv p1, iv p2, iv p3, iv (3 : Int32), iv ln, rv r_2229, rv r_2232, iv s0, rv r_2239, rv r_2244, iv s1, rv r_2253, rv r_2260, iv s2, rv b2272, iv (1 : Int32), iv (1 : Int32)] [(.int (1 : Int32)), (.int (1 : Int32))])) t → Steps p.tables e below (s₁.setTop (entryFrame m #[(.int p0), (.int p1), (.int p2), (.int p3)] maxLocals)) t := fun t kt => by
            refine pre2718 _ ?_
            show Steps p.tables e below (T2717.setTop (mkF m 277 #[iv p0, iv p1, iv p2, iv p3, iv (3 : Int32), iv ln, rv r_2229, rv r_2232, iv s0, rv r_2239, rv r_2244, iv s1, rv r_2253, rv r_2260, iv s2, rv b2272, iv (1 : Int32), iv (1 : Int32)] [(.int (1 : Int32))])) _
            refine XS.iload X2717.here hx rfl (hb hby at_277) rfl ?_
            exact kt
          obtain ⟨_, _, ⟨T2720, L2720, k2720, n2720⟩, -, X2720, ⟨Lc2720, hQ2720, l2720, y2720, z2720⟩, st2720⟩ := Jvm.LawKit.callS X2717 hx (y := (⟨"com/example/homethread/homethread/cli/ScenarioReportExitStatusPinLaw", "want", "(Z)I"⟩ : MethodName)) hown (mvT hZ (W 139 rfl)) (mvT hZ (W 140 rfl)) (mvT hZ (W 2 rfl)) (mvT hZ (W 141 rfl)) (by decide) (backOf (W := 1) (rm_want26_1 l Z a0 hw [] h2697 n0 O2697) hZ (W 141 rfl) (W 2 rfl) (by decide) (by decide)) (g := (mkF m 279 #[iv p0, iv p1, iv p2, iv p3, iv (3 : Int32), iv ln, rv r_2229, rv r_2232, iv s0, rv r_2239, rv r_2244, iv s1, rv r_2253, rv r_2260, iv s2, rv b2272, iv (1 : Int32), iv (1 : Int32)] [(.int (1 : Int32)), (.int (1 : Int32))])) rfl (by rw [hml]; rfl) (argsL := [(.int (1 : Int32))]) (rest := [(.int (1 : Int32))]) (lenOf pd_52 rfl) rfl (by show 2 * 0 + _ ≤ _; exact Nat.le_of_eq rfl) (hb hby at_279) (fun _ _ => ⟨rfl, e2717, (by decide : 21 + 0 ≤ _), (by decide : 63 + 0 ≤ _)⟩)
          dsimp only [Pt.U, Pt.locs, Pt.cells, Pt.slots] at X2720 l2720 y2720 z2720 st2720 hQ2720
          subst l2720 y2720 z2720
          obtain ⟨rfl, M2720, e2720⟩ := hQ2720
          have N2720 := Fr.app N2717 M2720
          have pre2721 : ∀ t, Steps p.tables e below (T2720.setTop (mkF m 282 #[iv p0, iv p1, iv p2, iv p3, iv (3 : Int32), iv ln, rv r_2229, rv r_2232, iv s0, rv r_2239, rv r_2244, iv s1, rv r_2253, rv r_2260, iv s2, rv b2272, iv (1 : Int32), iv (1 : Int32)] [(.int (1 : Int32)), (.int (1 : Int32))])) t → Steps p.tables e below (s₁.setTop (entryFrame m #[(.int p0), (.int p1), (.int p2), (.int p3)] maxLocals)) t := fun t kt => pre2719 _ (st2720 _ kt)
          have pre2722 : ∀ t, Steps p.tables e below (T2720.setTop (mkF m 299 #[iv p0, iv p1, iv p2, iv p3, iv (3 : Int32), iv ln, rv r_2229, rv r_2232, iv s0, rv r_2239, rv r_2244, iv s1, rv r_2253, rv r_2260, iv s2, rv b2272, iv (1 : Int32), iv (1 : Int32)] [(.ref b2272)])) t → Steps p.tables e below (s₁.setTop (entryFrame m #[(.int p0), (.int p1), (.int p2), (.int p3)] maxLocals)) t := fun t kt => by
            refine pre2721 _ ?_
            show Steps p.tables e below (T2720.setTop (mkF m 282 #[iv p0, iv p1, iv p2, iv p3, iv (3 : Int32), iv ln, rv r_2229, rv r_2232, iv s0, rv r_2239, rv r_2244, iv s1, rv r_2253, rv r_2260, iv s2, rv b2272, iv (1 : Int32), iv (1 : Int32)] [(.int (1 : Int32)), (.int (1 : Int32))])) _
            refine XS.icmpNo X2720.here hx rfl (hb hby at_282) rfl (XT.ii_ne_f (by decide)) ?_
            refine XS.iconst X2720.here hx rfl (hb hby at_285) ?_
            refine XS.goto X2720.here hx rfl (pc0 := 286) (pc' := 290) rfl (hb hby at_286) (by decide) (by decide) ?_
            refine XS.istore X2720.here hx rfl (hb hby at_290) rfl (l' := #[iv p0, iv p1, iv p2, iv p3, iv (3 : Int32), iv ln, rv r_2229, rv r_2232, iv s0, rv r_2239, rv r_2244, iv s1, rv r_2253, rv r_2260, iv s2, rv b2272, iv (1 : Int32), iv (1 : Int32)]) rfl ?_
            refine XS.iload X2720.here hx rfl (hb hby at_292) rfl ?_
            refine XS.ifNo X2720.here hx rfl (hb hby at_294) rfl (XT.i0_eq_f (by decide)) ?_
            refine XS.aload X2720.here hx rfl (hb hby at_297) rfl rfl ?_
            exact kt
          obtain ⟨cq2723, kq2723, q2723a, q2723b, q2723c⟩ := isOf hZ e2720 J2697_0
          obtain ⟨_, _, ⟨T2723, L2723, k2723, n2723⟩, -, X2723, ⟨Lc2723, hQ2723, l2723, y2723, z2723⟩, st2723⟩ := X2720.virtualBack hx (y := (⟨"com/example/homethread/homethread/cli/ScenarioReport", "exitStatus", "()I"⟩ : MethodName)) (z := (⟨"com/example/homethread/homethread/cli/ScenarioReport", "exitStatus", "()I"⟩ : MethodName)) hown (mvT hZ (W 82 rfl)) (mvT hZ (W 83 rfl)) (notFace_of_selects (args := #[]) (mvT hZ (W 85 rfl))) (mvT hZ (W 85 rfl)) (mvT hZ (W 84 rfl)) (by decide) (backOf (W := 0) (rm_exitStatus17_1 l Z a0 hw [] b2272 h2697 n0 O2697 F2715) hZ (W 86 rfl) (W 51 rfl) (by decide) (by decide)) q2723a q2723c (g := (mkF m 299 #[iv p0, iv p1, iv p2, iv p3, iv (3 : Int32), iv ln, rv r_2229, rv r_2232, iv s0, rv r_2239, rv r_2244, iv s1, rv r_2253, rv r_2260, iv s2, rv b2272, iv (1 : Int32), iv (1 : Int32)] [(.ref b2272)])) rfl (by rw [hml]; rfl) (Steps.refl _) (argsL := []) (rest := []) (lenOf pd_50 rfl) rfl (by show 2 * 0 + _ ≤ _; exact Nat.le_of_eq rfl) (hb hby at_299) (fun _ _ => ⟨rfl, e2720, (by decide : 21 + 0 ≤ _), (by decide : 63 + 0 ≤ _)⟩)
          dsimp only [Pt.U, Pt.locs, Pt.cells, Pt.slots] at X2723 l2723 y2723 z2723 st2723 hQ2723
          subst l2723 y2723 z2723
          obtain ⟨rfl, M2723, e2723⟩ := hQ2723
          have N2723 := Fr.app N2720 M2723
          have pre2724 : ∀ t, Steps p.tables e below (T2723.setTop (mkF m 302 #[iv p0, iv p1, iv p2, iv p3, iv (3 : Int32), iv ln, rv r_2229, rv r_2232, iv s0, rv r_2239, rv r_2244, iv s1, rv r_2253, rv r_2260, iv s2, rv b2272, iv (1 : Int32), iv (1 : Int32)] [(.int (1 : Int32))])) t → Steps p.tables e below (s₁.setTop (entryFrame m #[(.int p0), (.int p1), (.int p2), (.int p3)] maxLocals)) t := fun t kt => pre2722 _ (st2723.trans kt)
          have pre2725 : ∀ t, Steps p.tables e below (T2723.setTop (mkF m 304 #[iv p0, iv p1, iv p2, iv p3, iv (3 : Int32), iv ln, rv r_2229, rv r_2232, iv s0, rv r_2239, rv r_2244, iv s1, rv r_2253, rv r_2260, iv s2, rv b2272, iv (1 : Int32), iv (1 : Int32)] [(.int (1 : Int32)), (.int (1 : Int32))])) t → Steps p.tables e below (s₁.setTop (entryFrame m #[(.int p0), (.int p1), (.int p2), (.int p3)] maxLocals)) t := fun t kt => by
            refine pre2724 _ ?_
            show Steps p.tables e below (T2723.setTop (mkF m 302 #[iv p0, iv p1, iv p2, iv p3, iv (3 : Int32), iv ln, rv r_2229, rv r_2232, iv s0, rv r_2239, rv r_2244, iv s1, rv r_2253, rv r_2260, iv s2, rv b2272, iv (1 : Int32), iv (1 : Int32)] [(.int (1 : Int32))])) _
            refine XS.iload X2723.here hx rfl (hb hby at_302) rfl ?_
            exact kt
          obtain ⟨_, _, ⟨T2726, L2726, k2726, n2726⟩, -, X2726, ⟨Lc2726, hQ2726, l2726, y2726, z2726⟩, st2726⟩ := Jvm.LawKit.callS X2723 hx (y := (⟨"com/example/homethread/homethread/cli/ScenarioReportExitStatusPinLaw", "want", "(Z)I"⟩ : MethodName)) hown (mvT hZ (W 139 rfl)) (mvT hZ (W 140 rfl)) (mvT hZ (W 2 rfl)) (mvT hZ (W 141 rfl)) (by decide) (backOf (W := 1) (rm_want26_1 l Z a0 hw [] h2697 n0 O2697) hZ (W 141 rfl) (W 2 rfl) (by decide) (by decide)) (g := (mkF m 304 #[iv p0, iv p1, iv p2, iv p3, iv (3 : Int32), iv ln, rv r_2229, rv r_2232, iv s0, rv r_2239, rv r_2244, iv s1, rv r_2253, rv r_2260, iv s2, rv b2272, iv (1 : Int32), iv (1 : Int32)] [(.int (1 : Int32)), (.int (1 : Int32))])) rfl (by rw [hml]; rfl) (argsL := [(.int (1 : Int32))]) (rest := [(.int (1 : Int32))]) (lenOf pd_52 rfl) rfl (by show 2 * 0 + _ ≤ _; exact Nat.le_of_eq rfl) (hb hby at_304) (fun _ _ => ⟨rfl, e2723, (by decide : 21 + 0 ≤ _), (by decide : 63 + 0 ≤ _)⟩)
          dsimp only [Pt.U, Pt.locs, Pt.cells, Pt.slots] at X2726 l2726 y2726 z2726 st2726 hQ2726
          subst l2726 y2726 z2726
          obtain ⟨rfl, M2726, e2726⟩ := hQ2726
          have N2726 := Fr.app N2723 M2726
          have pre2727 : ∀ t, Steps p.tables e below (T2726.setTop (mkF m 307 #[iv p0, iv p1, iv p2, iv p3, iv (3 : Int32), iv ln, rv r_2229, rv r_2232, iv s0, rv r_2239, rv r_2244, iv s1, rv r_2253, rv r_2260, iv s2, rv b2272, iv (1 : Int32), iv (1 : Int32)] [(.int (1 : Int32)), (.int (1 : Int32))])) t → Steps p.tables e below (s₁.setTop (entryFrame m #[(.int p0), (.int p1), (.int p2), (.int p3)] maxLocals)) t := fun t kt => pre2725 _ (st2726 _ kt)
          have pre2728 : ∀ t, Steps p.tables e below (T2726.setTop (mkF m 319 #[iv p0, iv p1, iv p2, iv p3, iv (3 : Int32), iv ln, rv r_2229, rv r_2232, iv s0, rv r_2239, rv r_2244, iv s1, rv r_2253, rv r_2260, iv s2, rv b2272, iv (1 : Int32), iv (1 : Int32)] [(.int (1 : Int32))])) t → Steps p.tables e below (s₁.setTop (entryFrame m #[(.int p0), (.int p1), (.int p2), (.int p3)] maxLocals)) t := fun t kt => by
            refine pre2727 _ ?_
            show Steps p.tables e below (T2726.setTop (mkF m 307 #[iv p0, iv p1, iv p2, iv p3, iv (3 : Int32), iv ln, rv r_2229, rv r_2232, iv s0, rv r_2239, rv r_2244, iv s1, rv r_2253, rv r_2260, iv s2, rv b2272, iv (1 : Int32), iv (1 : Int32)] [(.int (1 : Int32)), (.int (1 : Int32))])) _
            refine XS.icmpNo X2726.here hx rfl (hb hby at_307) rfl (XT.ii_ne_f (by decide)) ?_
            refine XS.iconst X2726.here hx rfl (hb hby at_310) ?_
            refine XS.goto X2726.here hx rfl (pc0 := 311) (pc' := 315) rfl (hb hby at_311) (by decide) (by decide) ?_
            refine XS.istore X2726.here hx rfl (hb hby at_315) rfl (l' := #[iv p0, iv p1, iv p2, iv p3, iv (3 : Int32), iv ln, rv r_2229, rv r_2232, iv s0, rv r_2239, rv r_2244, iv s1, rv r_2253, rv r_2260, iv s2, rv b2272, iv (1 : Int32), iv (1 : Int32)]) rfl ?_
            refine XS.iload X2726.here hx rfl (hb hby at_317) rfl ?_
            exact kt
          obtain ⟨fs, hr, hrun, hended, hW, hsame⟩ := X2726.leave (v := some (.int (1 : Int32))) (fun h => by rw [Bd.returns] at h; cases h)
          refine ⟨_, _, pre2728 _ (retN X2726 hx (t := .boolean) Bd.returns (by simp) (hb hby at_319) hr), hrun, hended, _, _, rfl, ?_, ⟨_, rfl⟩, hW, hsame.mono (by decide) (by decide)⟩
          show Q_law Z p0 p1 p2 p3 cz ad kd h0 n0 _ T2726.heap _
          rw [e2726]
          exact ⟨rfl, N2726⟩
    · rw [← hs0] at hs2636a
      have F2729 : Fld Z h2633 b2272 "com/example/homethread/homethread/cli/ScenarioReport" "differs" "Z" (.int (0 : Int32)) := own_fldcast J2633_2 (own_dif1 hs2636b)
      have pre2730 : ∀ t, Steps p.tables e below (T2633.setTop (mkF m 160 #[iv p0, iv p1, iv p2, iv p3, iv (3 : Int32), iv ln, rv r_2229, rv r_2232, iv s0, rv r_2239, rv r_2244, iv s1, rv r_2253, rv r_2260, iv s2, rv b2272, iv (1 : Int32), iv (0 : Int32)] [(.ref b2272)])) t → Steps p.tables e below (s₁.setTop (entryFrame m #[(.int p0), (.int p1), (.int p2), (.int p3)] maxLocals)) t := fun t kt => by
        refine pre2634 _ ?_
        show Steps p.tables e below (T2633.setTop (mkF m 136 #[iv p0, iv p1, iv p2, iv p3, iv (3 : Int32), iv ln, rv r_2229, rv r_2232, iv s0, rv r_2239, rv r_2244, iv s1, rv r_2253, rv r_2260, iv s2, rv b2272, iv (1 : Int32), iv (0 : Int32)] [])) _
        refine XS.iload X2633.here hx rfl (hb hby at_136) rfl ?_
        refine XS.ifNo X2633.here hx rfl (hb hby at_138) rfl (XT.i0_ne_f (by decide)) ?_
        refine XS.iload X2633.here hx rfl (hb hby at_141) rfl ?_
        refine XS.ifYes X2633.here hx rfl (pc0 := 143) (pc' := 150) rfl (hb hby at_143) rfl (XT.i0_ne_t hs2636a) (by decide) (by decide) ?_
        refine XS.iconst X2633.here hx rfl (hb hby at_150) ?_
        refine XS.istore X2633.here hx rfl (hb hby at_151) rfl (l' := #[iv p0, iv p1, iv p2, iv p3, iv (3 : Int32), iv ln, rv r_2229, rv r_2232, iv s0, rv r_2239, rv r_2244, iv s1, rv r_2253, rv r_2260, iv s2, rv b2272, iv (1 : Int32), iv (0 : Int32)]) rfl ?_
        refine XS.iload X2633.here hx rfl (hb hby at_153) rfl ?_
        refine XS.ifNo X2633.here hx rfl (hb hby at_155) rfl (XT.i0_eq_f (by decide)) ?_
        show Steps p.tables e below (T2633.setTop (mkF m 158 #[iv p0, iv p1, iv p2, iv p3, iv (3 : Int32), iv ln, rv r_2229, rv r_2232, iv s0, rv r_2239, rv r_2244, iv s1, rv r_2253, rv r_2260, iv s2, rv b2272, iv (1 : Int32), iv (0 : Int32)] [])) _
        refine XS.aload X2633.here hx rfl (hb hby at_158) rfl rfl ?_
        exact kt
      obtain ⟨cq2731, kq2731, q2731a, q2731b, q2731c⟩ := isOf hZ e2633 J2633_0
      obtain ⟨_, _, ⟨T2731, L2731, k2731, n2731⟩, -, X2731, ⟨Lc2731, hQ2731, l2731, y2731, z2731⟩, st2731⟩ := X2633.virtualBack hx (y := (⟨"com/example/homethread/homethread/cli/ScenarioReport", "exitStatus", "()I"⟩ : MethodName)) (z := (⟨"com/example/homethread/homethread/cli/ScenarioReport", "exitStatus", "()I"⟩ : MethodName)) hown (mvT hZ (W 82 rfl)) (mvT hZ (W 83 rfl)) (notFace_of_selects (args := #[]) (mvT hZ (W 85 rfl))) (mvT hZ (W 85 rfl)) (mvT hZ (W 84 rfl)) (by decide) (backOf (W := 0) (rm_exitStatus17_0 l Z a0 hw [] b2272 h2633 n0 O2633 F2729) hZ (W 86 rfl) (W 51 rfl) (by decide) (by decide)) q2731a q2731c (g := (mkF m 160 #[iv p0, iv p1, iv p2, iv p3, iv (3 : Int32), iv ln, rv r_2229, rv r_2232, iv s0, rv r_2239, rv r_2244, iv s1, rv r_2253, rv r_2260, iv s2, rv b2272, iv (1 : Int32), iv (0 : Int32)] [(.ref b2272)])) rfl (by rw [hml]; rfl) (Steps.refl _) (argsL := []) (rest := []) (lenOf pd_50 rfl) rfl (by show 2 * 0 + _ ≤ _; exact Nat.le_of_eq rfl) (hb hby at_160) (fun _ _ => ⟨rfl, e2633, (by decide : 21 + 0 ≤ _), (by decide : 63 + 0 ≤ _)⟩)
      dsimp only [Pt.U, Pt.locs, Pt.cells, Pt.slots] at X2731 l2731 y2731 z2731 st2731 hQ2731
      subst l2731 y2731 z2731
      obtain ⟨rfl, M2731, e2731⟩ := hQ2731
      have N2731 := Fr.app N2633 M2731
      have pre2732 : ∀ t, Steps p.tables e below (T2731.setTop (mkF m 163 #[iv p0, iv p1, iv p2, iv p3, iv (3 : Int32), iv ln, rv r_2229, rv r_2232, iv s0, rv r_2239, rv r_2244, iv s1, rv r_2253, rv r_2260, iv s2, rv b2272, iv (1 : Int32), iv (0 : Int32)] [(.int (0 : Int32))])) t → Steps p.tables e below (s₁.setTop (entryFrame m #[(.int p0), (.int p1), (.int p2), (.int p3)] maxLocals)) t := fun t kt => pre2730 _ (st2731.trans kt)
      have pre2733 : ∀ t, Steps p.tables e below (T2731.setTop (mkF m 165 #[iv p0, iv p1, iv p2, iv p3, iv (3 : Int32), iv ln, rv r_2229, rv r_2232, iv s0, rv r_2239, rv r_2244, iv s1, rv r_2253, rv r_2260, iv s2, rv b2272, iv (1 : Int32), iv (0 : Int32)] [(.int (0 : Int32)), (.int (0 : Int32))])) t → Steps p.tables e below (s₁.setTop (entryFrame m #[(.int p0), (.int p1), (.int p2), (.int p3)] maxLocals)) t := fun t kt => by
        refine pre2732 _ ?_
        show Steps p.tables e below (T2731.setTop (mkF m 163 #[iv p0, iv p1, iv p2, iv p3, iv (3 : Int32), iv ln, rv r_2229, rv r_2232, iv s0, rv r_2239, rv r_2244, iv s1, rv r_2253, rv r_2260, iv s2, rv b2272, iv (1 : Int32), iv (0 : Int32)] [(.int (0 : Int32))])) _
        refine XS.iload X2731.here hx rfl (hb hby at_163) rfl ?_
        exact kt
      obtain ⟨_, _, ⟨T2734, L2734, k2734, n2734⟩, -, X2734, ⟨Lc2734, hQ2734, l2734, y2734, z2734⟩, st2734⟩ := Jvm.LawKit.callS X2731 hx (y := (⟨"com/example/homethread/homethread/cli/ScenarioReportExitStatusPinLaw", "want", "(Z)I"⟩ : MethodName)) hown (mvT hZ (W 139 rfl)) (mvT hZ (W 140 rfl)) (mvT hZ (W 2 rfl)) (mvT hZ (W 141 rfl)) (by decide) (backOf (W := 1) (rm_want26_0 l Z a0 hw [] h2633 n0 O2633) hZ (W 141 rfl) (W 2 rfl) (by decide) (by decide)) (g := (mkF m 165 #[iv p0, iv p1, iv p2, iv p3, iv (3 : Int32), iv ln, rv r_2229, rv r_2232, iv s0, rv r_2239, rv r_2244, iv s1, rv r_2253, rv r_2260, iv s2, rv b2272, iv (1 : Int32), iv (0 : Int32)] [(.int (0 : Int32)), (.int (0 : Int32))])) rfl (by rw [hml]; rfl) (argsL := [(.int (0 : Int32))]) (rest := [(.int (0 : Int32))]) (lenOf pd_52 rfl) rfl (by show 2 * 0 + _ ≤ _; exact Nat.le_of_eq rfl) (hb hby at_165) (fun _ _ => ⟨rfl, e2731, (by decide : 21 + 0 ≤ _), (by decide : 63 + 0 ≤ _)⟩)
      dsimp only [Pt.U, Pt.locs, Pt.cells, Pt.slots] at X2734 l2734 y2734 z2734 st2734 hQ2734
      subst l2734 y2734 z2734
      obtain ⟨rfl, M2734, e2734⟩ := hQ2734
      have N2734 := Fr.app N2731 M2734
      have pre2735 : ∀ t, Steps p.tables e below (T2734.setTop (mkF m 168 #[iv p0, iv p1, iv p2, iv p3, iv (3 : Int32), iv ln, rv r_2229, rv r_2232, iv s0, rv r_2239, rv r_2244, iv s1, rv r_2253, rv r_2260, iv s2, rv b2272, iv (1 : Int32), iv (0 : Int32)] [(.int (0 : Int32)), (.int (0 : Int32))])) t → Steps p.tables e below (s₁.setTop (entryFrame m #[(.int p0), (.int p1), (.int p2), (.int p3)] maxLocals)) t := fun t kt => pre2733 _ (st2734 _ kt)
      have pre2736 : ∀ t, Steps p.tables e below (T2734.setTop (mkF m 190 #[iv p0, iv p1, iv p2, iv p3, iv (3 : Int32), iv ln, rv r_2229, rv r_2232, iv s0, rv r_2239, rv r_2244, iv s1, rv r_2253, rv r_2260, iv s2, rv b2272, iv (1 : Int32), iv (0 : Int32)] [(.ref r_2244), (.ref r_2239), (.ref b2272)])) t → Steps p.tables e below (s₁.setTop (entryFrame m #[(.int p0), (.int p1), (.int p2), (.int p3)] maxLocals)) t := fun t kt => by
        refine pre2735 _ ?_
        show Steps p.tables e below (T2734.setTop (mkF m 168 #[iv p0, iv p1, iv p2, iv p3, iv (3 : Int32), iv ln, rv r_2229, rv r_2232, iv s0, rv r_2239, rv r_2244, iv s1, rv r_2253, rv r_2260, iv s2, rv b2272, iv (1 : Int32), iv (0 : Int32)] [(.int (0 : Int32)), (.int (0 : Int32))])) _
        refine XS.icmpNo X2734.here hx rfl (hb hby at_168) rfl (XT.ii_ne_f (by decide)) ?_
        refine XS.iconst X2734.here hx rfl (hb hby at_171) ?_
        refine XS.goto X2734.here hx rfl (pc0 := 172) (pc' := 176) rfl (hb hby at_172) (by decide) (by decide) ?_
        refine XS.istore X2734.here hx rfl (hb hby at_176) rfl (l' := #[iv p0, iv p1, iv p2, iv p3, iv (3 : Int32), iv ln, rv r_2229, rv r_2232, iv s0, rv r_2239, rv r_2244, iv s1, rv r_2253, rv r_2260, iv s2, rv b2272, iv (1 : Int32), iv (0 : Int32)]) rfl ?_
        refine XS.iload X2734.here hx rfl (hb hby at_178) rfl ?_
        refine XS.iconst X2734.here hx rfl (hb hby at_180) ?_
        refine XS.icmpNo X2734.here hx rfl (hb hby at_181) rfl (XT.ii_lt_f (by decide)) ?_
        refine XS.aload X2734.here hx rfl (hb hby at_184) rfl rfl ?_
        show Steps p.tables e below (T2734.setTop (mkF m 186 #[iv p0, iv p1, iv p2, iv p3, iv (3 : Int32), iv ln, rv r_2229, rv r_2232, iv s0, rv r_2239, rv r_2244, iv s1, rv r_2253, rv r_2260, iv s2, rv b2272, iv (1 : Int32), iv (0 : Int32)] [(.ref b2272)])) _
        refine XS.aload X2734.here hx rfl (hb hby at_186) rfl rfl ?_
        refine XS.aload X2734.here hx rfl (hb hby at_188) rfl rfl ?_
        exact kt
      obtain ⟨cq2737, kq2737, q2737a, q2737b, q2737c⟩ := isOf hZ e2734 J2633_0
      obtain ⟨_, _, ⟨T2737, L2737, k2737, n2737⟩, -, X2737, ⟨Lc2737, hQ2737, l2737, y2737, z2737⟩, st2737⟩ := X2734.virtualBack hx (y := (⟨"com/example/homethread/homethread/cli/ScenarioReport", "expectLine", "(Ljava/lang/String;Ljava/lang/String;)V"⟩ : MethodName)) (z := (⟨"com/example/homethread/homethread/cli/ScenarioReport", "expectLine", "(Ljava/lang/String;Ljava/lang/String;)V"⟩ : MethodName)) hown (mvT hZ (W 89 rfl)) (mvT hZ (W 90 rfl)) (notFace_of_selects (args := #[]) (mvT hZ (W 92 rfl))) (mvT hZ (W 92 rfl)) (mvT hZ (W 91 rfl)) (by decide) (backOf (W := 0) (rm_line1 l Z a0 hw [] b2272 r_2239 r_2244 cz ad kd b2446_2279 (((0 : Int32) + (1 : Int32))) ((0 : Int32)) ((l2 &&& (2 : Int32))) ((own_b ((p1 &&& (255 : Int32)) ^^^ (own_x0 p1)))) ((own_b ((((p1.toUInt32 >>> ((8 : Int32) &&& 31).toUInt32).toInt32) &&& (255 : Int32)) ^^^ (own_x1 p1)))) ((l2 &&& (1 : Int32))) ((own_b (p1 &&& (255 : Int32)))) ((own_b (((p1.toUInt32 >>> ((8 : Int32) &&& 31).toUInt32).toInt32) &&& (255 : Int32)))) na_2633 kna_2633 ((.ref r_2232)) h2633 n0 O2633 G0 G1 G2 G3 g_b2272 g_b2446_2279 g_na_2633 J2633_0 J2633_1 F2729 J2633_3 J2633_4 J2633_5 J2633_6 J2633_7 J2633_8 J2633_9 qz (fun q => ne_r_2239_r_2244 q.symm) (Or.inl rfl) ne_b2272_b2446_2279 ne_b2272_na_2633 ne_b2446_2279_na_2633 h2260 XF2635 F2265 F2264 zF_b2272 zF_b2446_2279 zF_na_2633) hZ (W 93 rfl) (W 51 rfl) (by decide) (by decide)) q2737a q2737c (g := (mkF m 190 #[iv p0, iv p1, iv p2, iv p3, iv (3 : Int32), iv ln, rv r_2229, rv r_2232, iv s0, rv r_2239, rv r_2244, iv s1, rv r_2253, rv r_2260, iv s2, rv b2272, iv (1 : Int32), iv (0 : Int32)] [(.ref r_2244), (.ref r_2239), (.ref b2272)])) rfl (by rw [hml]; rfl) (Steps.refl _) (argsL := [(.ref r_2239), (.ref r_2244)]) (rest := []) (lenOf pd_53 rfl) rfl (by show 2 * 0 + _ ≤ _; exact Nat.le_of_eq rfl) (hb hby at_190) (fun _ _ => ⟨rfl, e2734, (by decide : 21 + 0 ≤ _), (by decide : 63 + 0 ≤ _)⟩)
      dsimp only [Pt.U, Pt.locs, Pt.cells, Pt.slots] at X2737 l2737 y2737 z2737 st2737 hQ2737
      subst l2737 y2737 z2737
      obtain ⟨rfl, M2737, Kc2737, O2737, J2737_0, J2737_1, J2737_2, J2737_3, J2737_4, J2737_5, J2737_6, J2737_7, J2737_8, J2737_9⟩ := hQ2737
      obtain ⟨h2737, e2737⟩ : ∃ z, T2737.heap = z := ⟨_, rfl⟩
      rw [e2737] at Kc2737 O2737 J2737_0 J2737_1 J2737_2 J2737_3 J2737_4 J2737_5 J2737_6 J2737_7 J2737_8
      have N2737 := Fr.app N2734 M2737
      have K2737 : Keep h0 h2737 [] := K2633.trans Kc2737 (own_all3 (Or.inr sz_b2272) (Or.inr sz_b2446_2279) (Or.inr sz_na_2633))
      have pre2738 : ∀ t, Steps p.tables e below (T2737.setTop (mkF m 193 #[iv p0, iv p1, iv p2, iv p3, iv (3 : Int32), iv ln, rv r_2229, rv r_2232, iv s0, rv r_2239, rv r_2244, iv s1, rv r_2253, rv r_2260, iv s2, rv b2272, iv (1 : Int32), iv (0 : Int32)] [])) t → Steps p.tables e below (s₁.setTop (entryFrame m #[(.int p0), (.int p1), (.int p2), (.int p3)] maxLocals)) t := fun t kt => pre2736 _ (st2737.trans kt)
      have XF2739 : Ext h2260 h2737 := own_ext_keep XF2635 Kc2737 (own_all3 zF_b2272 zF_b2446_2279 zF_na_2633)
      rcases own_sync p1 l2 with ⟨hs2740a, hs2740b⟩ | ⟨hs2740a, hs2740b⟩
      · rw [← hs1] at hs2740a
        have F2741 : Fld Z h2737 b2272 "com/example/homethread/homethread/cli/ScenarioReport" "differs" "Z" (.int (1 : Int32)) := own_fldcast J2737_2 (own_dif0 hs2740b)
        have pre2742 : ∀ t, Steps p.tables e below (T2737.setTop (mkF m 217 #[iv p0, iv p1, iv p2, iv p3, iv (3 : Int32), iv ln, rv r_2229, rv r_2232, iv s0, rv r_2239, rv r_2244, iv s1, rv r_2253, rv r_2260, iv s2, rv b2272, iv (1 : Int32), iv (1 : Int32)] [(.ref b2272)])) t → Steps p.tables e below (s₁.setTop (entryFrame m #[(.int p0), (.int p1), (.int p2), (.int p3)] maxLocals)) t := fun t kt => by
          refine pre2738 _ ?_
          show Steps p.tables e below (T2737.setTop (mkF m 193 #[iv p0, iv p1, iv p2, iv p3, iv (3 : Int32), iv ln, rv r_2229, rv r_2232, iv s0, rv r_2239, rv r_2244, iv s1, rv r_2253, rv r_2260, iv s2, rv b2272, iv (1 : Int32), iv (0 : Int32)] [])) _
          refine XS.iload X2737.here hx rfl (hb hby at_193) rfl ?_
          refine XS.ifNo X2737.here hx rfl (hb hby at_195) rfl (XT.i0_ne_f (by decide)) ?_
          refine XS.iload X2737.here hx rfl (hb hby at_198) rfl ?_
          refine XS.ifNo X2737.here hx rfl (hb hby at_200) rfl (XT.i0_ne_f hs2740a) ?_
          refine XS.iconst X2737.here hx rfl (hb hby at_203) ?_
          refine XS.goto X2737.here hx rfl (pc0 := 204) (pc' := 208) rfl (hb hby at_204) (by decide) (by decide) ?_
          refine XS.istore X2737.here hx rfl (hb hby at_208) rfl (l' := #[iv p0, iv p1, iv p2, iv p3, iv (3 : Int32), iv ln, rv r_2229, rv r_2232, iv s0, rv r_2239, rv r_2244, iv s1, rv r_2253, rv r_2260, iv s2, rv b2272, iv (1 : Int32), iv (1 : Int32)]) rfl ?_
          refine XS.iload X2737.here hx rfl (hb hby at_210) rfl ?_
          show Steps p.tables e below (T2737.setTop (mkF m 212 #[iv p0, iv p1, iv p2, iv p3, iv (3 : Int32), iv ln, rv r_2229, rv r_2232, iv s0, rv r_2239, rv r_2244, iv s1, rv r_2253, rv r_2260, iv s2, rv b2272, iv (1 : Int32), iv (1 : Int32)] [(.int (1 : Int32))])) _
          refine XS.ifNo X2737.here hx rfl (hb hby at_212) rfl (XT.i0_eq_f (by decide)) ?_
          refine XS.aload X2737.here hx rfl (hb hby at_215) rfl rfl ?_
          exact kt
        obtain ⟨cq2743, kq2743, q2743a, q2743b, q2743c⟩ := isOf hZ e2737 J2737_0
        obtain ⟨_, _, ⟨T2743, L2743, k2743, n2743⟩, -, X2743, ⟨Lc2743, hQ2743, l2743, y2743, z2743⟩, st2743⟩ := X2737.virtualBack hx (y := (⟨"com/example/homethread/homethread/cli/ScenarioReport", "exitStatus", "()I"⟩ : MethodName)) (z := (⟨"com/example/homethread/homethread/cli/ScenarioReport", "exitStatus", "()I"⟩ : MethodName)) hown (mvT hZ (W 82 rfl)) (mvT hZ (W 83 rfl)) (notFace_of_selects (args := #[]) (mvT hZ (W 85 rfl))) (mvT hZ (W 85 rfl)) (mvT hZ (W 84 rfl)) (by decide) (backOf (W := 0) (rm_exitStatus17_1 l Z a0 hw [] b2272 h2737 n0 O2737 F2741) hZ (W 86 rfl) (W 51 rfl) (by decide) (by decide)) q2743a q2743c (g := (mkF m 217 #[iv p0, iv p1, iv p2, iv p3, iv (3 : Int32), iv ln, rv r_2229, rv r_2232, iv s0, rv r_2239, rv r_2244, iv s1, rv r_2253, rv r_2260, iv s2, rv b2272, iv (1 : Int32), iv (1 : Int32)] [(.ref b2272)])) rfl (by rw [hml]; rfl) (Steps.refl _) (argsL := []) (rest := []) (lenOf pd_50 rfl) rfl (by show 2 * 0 + _ ≤ _; exact Nat.le_of_eq rfl) (hb hby at_217) (fun _ _ => ⟨rfl, e2737, (by decide : 21 + 0 ≤ _), (by decide : 63 + 0 ≤ _)⟩)
        dsimp only [Pt.U, Pt.locs, Pt.cells, Pt.slots] at X2743 l2743 y2743 z2743 st2743 hQ2743
        subst l2743 y2743 z2743
        obtain ⟨rfl, M2743, e2743⟩ := hQ2743
        have N2743 := Fr.app N2737 M2743
        have pre2744 : ∀ t, Steps p.tables e below (T2743.setTop (mkF m 220 #[iv p0, iv p1, iv p2, iv p3, iv (3 : Int32), iv ln, rv r_2229, rv r_2232, iv s0, rv r_2239, rv r_2244, iv s1, rv r_2253, rv r_2260, iv s2, rv b2272, iv (1 : Int32), iv (1 : Int32)] [(.int (1 : Int32))])) t → Steps p.tables e below (s₁.setTop (entryFrame m #[(.int p0), (.int p1), (.int p2), (.int p3)] maxLocals)) t := fun t kt => pre2742 _ (st2743.trans kt)
        have pre2745 : ∀ t, Steps p.tables e below (T2743.setTop (mkF m 222 #[iv p0, iv p1, iv p2, iv p3, iv (3 : Int32), iv ln, rv r_2229, rv r_2232, iv s0, rv r_2239, rv r_2244, iv s1, rv r_2253, rv r_2260, iv s2, rv b2272, iv (1 : Int32), iv (1 : Int32)] [(.int (1 : Int32)), (.int (1 : Int32))])) t → Steps p.tables e below (s₁.setTop (entryFrame m #[(.int p0), (.int p1), (.int p2), (.int p3)] maxLocals)) t := fun t kt => by
          refine pre2744 _ ?_
          show Steps p.tables e below (T2743.setTop (mkF m 220 #[iv p0, iv p1, iv p2, iv p3, iv (3 : Int32), iv ln, rv r_2229, rv r_2232, iv s0, rv r_2239, rv r_2244, iv s1, rv r_2253, rv r_2260, iv s2, rv b2272, iv (1 : Int32), iv (1 : Int32)] [(.int (1 : Int32))])) _
          refine XS.iload X2743.here hx rfl (hb hby at_220) rfl ?_
          exact kt
        obtain ⟨_, _, ⟨T2746, L2746, k2746, n2746⟩, -, X2746, ⟨Lc2746, hQ2746, l2746, y2746, z2746⟩, st2746⟩ := Jvm.LawKit.callS X2743 hx (y := (⟨"com/example/homethread/homethread/cli/ScenarioReportExitStatusPinLaw", "want", "(Z)I"⟩ : MethodName)) hown (mvT hZ (W 139 rfl)) (mvT hZ (W 140 rfl)) (mvT hZ (W 2 rfl)) (mvT hZ (W 141 rfl)) (by decide) (backOf (W := 1) (rm_want26_1 l Z a0 hw [] h2737 n0 O2737) hZ (W 141 rfl) (W 2 rfl) (by decide) (by decide)) (g := (mkF m 222 #[iv p0, iv p1, iv p2, iv p3, iv (3 : Int32), iv ln, rv r_2229, rv r_2232, iv s0, rv r_2239, rv r_2244, iv s1, rv r_2253, rv r_2260, iv s2, rv b2272, iv (1 : Int32), iv (1 : Int32)] [(.int (1 : Int32)), (.int (1 : Int32))])) rfl (by rw [hml]; rfl) (argsL := [(.int (1 : Int32))]) (rest := [(.int (1 : Int32))]) (lenOf pd_52 rfl) rfl (by show 2 * 0 + _ ≤ _; exact Nat.le_of_eq rfl) (hb hby at_222) (fun _ _ => ⟨rfl, e2743, (by decide : 21 + 0 ≤ _), (by decide : 63 + 0 ≤ _)⟩)
        dsimp only [Pt.U, Pt.locs, Pt.cells, Pt.slots] at X2746 l2746 y2746 z2746 st2746 hQ2746
        subst l2746 y2746 z2746
        obtain ⟨rfl, M2746, e2746⟩ := hQ2746
        have N2746 := Fr.app N2743 M2746
        have pre2747 : ∀ t, Steps p.tables e below (T2746.setTop (mkF m 225 #[iv p0, iv p1, iv p2, iv p3, iv (3 : Int32), iv ln, rv r_2229, rv r_2232, iv s0, rv r_2239, rv r_2244, iv s1, rv r_2253, rv r_2260, iv s2, rv b2272, iv (1 : Int32), iv (1 : Int32)] [(.int (1 : Int32)), (.int (1 : Int32))])) t → Steps p.tables e below (s₁.setTop (entryFrame m #[(.int p0), (.int p1), (.int p2), (.int p3)] maxLocals)) t := fun t kt => pre2745 _ (st2746 _ kt)
        have pre2748 : ∀ t, Steps p.tables e below (T2746.setTop (mkF m 247 #[iv p0, iv p1, iv p2, iv p3, iv (3 : Int32), iv ln, rv r_2229, rv r_2232, iv s0, rv r_2239, rv r_2244, iv s1, rv r_2253, rv r_2260, iv s2, rv b2272, iv (1 : Int32), iv (1 : Int32)] [(.ref r_2260), (.ref r_2253), (.ref b2272)])) t → Steps p.tables e below (s₁.setTop (entryFrame m #[(.int p0), (.int p1), (.int p2), (.int p3)] maxLocals)) t := fun t kt => by
          refine pre2747 _ ?_
          show Steps p.tables e below (T2746.setTop (mkF m 225 #[iv p0, iv p1, iv p2, iv p3, iv (3 : Int32), iv ln, rv r_2229, rv r_2232, iv s0, rv r_2239, rv r_2244, iv s1, rv r_2253, rv r_2260, iv s2, rv b2272, iv (1 : Int32), iv (1 : Int32)] [(.int (1 : Int32)), (.int (1 : Int32))])) _
          refine XS.icmpNo X2746.here hx rfl (hb hby at_225) rfl (XT.ii_ne_f (by decide)) ?_
          refine XS.iconst X2746.here hx rfl (hb hby at_228) ?_
          refine XS.goto X2746.here hx rfl (pc0 := 229) (pc' := 233) rfl (hb hby at_229) (by decide) (by decide) ?_
          refine XS.istore X2746.here hx rfl (hb hby at_233) rfl (l' := #[iv p0, iv p1, iv p2, iv p3, iv (3 : Int32), iv ln, rv r_2229, rv r_2232, iv s0, rv r_2239, rv r_2244, iv s1, rv r_2253, rv r_2260, iv s2, rv b2272, iv (1 : Int32), iv (1 : Int32)]) rfl ?_
          refine XS.iload X2746.here hx rfl (hb hby at_235) rfl ?_
          refine XS.iconst X2746.here hx rfl (hb hby at_237) ?_
          refine XS.icmpNo X2746.here hx rfl (hb hby at_238) rfl (XT.ii_lt_f (by decide)) ?_
          refine XS.aload X2746.here hx rfl (hb hby at_241) rfl rfl ?_
          show Steps p.tables e below (T2746.setTop (mkF m 243 #[iv p0, iv p1, iv p2, iv p3, iv (3 : Int32), iv ln, rv r_2229, rv r_2232, iv s0, rv r_2239, rv r_2244, iv s1, rv r_2253, rv r_2260, iv s2, rv b2272, iv (1 : Int32), iv (1 : Int32)] [(.ref b2272)])) _
          refine XS.aload X2746.here hx rfl (hb hby at_243) rfl rfl ?_
          refine XS.aload X2746.here hx rfl (hb hby at_245) rfl rfl ?_
          exact kt
        obtain ⟨cq2749, kq2749, q2749a, q2749b, q2749c⟩ := isOf hZ e2746 J2737_0
        obtain ⟨_, _, ⟨T2749, L2749, k2749, n2749⟩, -, X2749, ⟨Lc2749, hQ2749, l2749, y2749, z2749⟩, st2749⟩ := X2746.virtualBack hx (y := (⟨"com/example/homethread/homethread/cli/ScenarioReport", "expectLine", "(Ljava/lang/String;Ljava/lang/String;)V"⟩ : MethodName)) (z := (⟨"com/example/homethread/homethread/cli/ScenarioReport", "expectLine", "(Ljava/lang/String;Ljava/lang/String;)V"⟩ : MethodName)) hown (mvT hZ (W 89 rfl)) (mvT hZ (W 90 rfl)) (notFace_of_selects (args := #[]) (mvT hZ (W 92 rfl))) (mvT hZ (W 92 rfl)) (mvT hZ (W 91 rfl)) (by decide) (backOf (W := 0) (rm_line2 l Z a0 hw [] b2272 r_2253 r_2260 cz ad kd b2446_2279 ((((0 : Int32) + (1 : Int32)) + (1 : Int32))) ((1 : Int32)) ((l4 &&& (2 : Int32))) ((own_b ((p2 &&& (255 : Int32)) ^^^ (own_x0 p2)))) ((own_b ((((p2.toUInt32 >>> ((8 : Int32) &&& 31).toUInt32).toInt32) &&& (255 : Int32)) ^^^ (own_x1 p2)))) ((l4 &&& (1 : Int32))) ((own_b (p2 &&& (255 : Int32)))) ((own_b (((p2.toUInt32 >>> ((8 : Int32) &&& 31).toUInt32).toInt32) &&& (255 : Int32)))) na_2633 kna_2633 ((.ref r_2232)) ((.ref r_2244)) h2737 n0 O2737 G0 G1 G2 G3 g_b2272 g_b2446_2279 g_na_2633 J2737_0 J2737_1 F2741 J2737_3 J2737_4 J2737_5 J2737_6 J2737_7 J2737_8 J2737_9 qz (fun q => ne_r_2253_r_2260 q.symm) (Or.inr rfl) ne_b2272_b2446_2279 ne_b2272_na_2633 ne_b2446_2279_na_2633 h2260 XF2739 J2260_0 F2266 zF_b2272 zF_b2446_2279 zF_na_2633) hZ (W 93 rfl) (W 51 rfl) (by decide) (by decide)) q2749a q2749c (g := (mkF m 247 #[iv p0, iv p1, iv p2, iv p3, iv (3 : Int32), iv ln, rv r_2229, rv r_2232, iv s0, rv r_2239, rv r_2244, iv s1, rv r_2253, rv r_2260, iv s2, rv b2272, iv (1 : Int32), iv (1 : Int32)] [(.ref r_2260), (.ref r_2253), (.ref b2272)])) rfl (by rw [hml]; rfl) (Steps.refl _) (argsL := [(.ref r_2253), (.ref r_2260)]) (rest := []) (lenOf pd_53 rfl) rfl (by show 2 * 0 + _ ≤ _; exact Nat.le_of_eq rfl) (hb hby at_247) (fun _ _ => ⟨rfl, e2746, (by decide : 21 + 0 ≤ _), (by decide : 63 + 0 ≤ _)⟩)
        dsimp only [Pt.U, Pt.locs, Pt.cells, Pt.slots] at X2749 l2749 y2749 z2749 st2749 hQ2749
        subst l2749 y2749 z2749
        obtain ⟨rfl, M2749, Kc2749, O2749, J2749_0, J2749_1, J2749_2, J2749_3, J2749_4, J2749_5, J2749_6, J2749_7, J2749_8, J2749_9⟩ := hQ2749
        obtain ⟨h2749, e2749⟩ : ∃ z, T2749.heap = z := ⟨_, rfl⟩
        rw [e2749] at Kc2749 O2749 J2749_0 J2749_1 J2749_2 J2749_3 J2749_4 J2749_5 J2749_6 J2749_7 J2749_8
        have N2749 := Fr.app N2746 M2749
        have K2749 : Keep h0 h2749 [] := K2737.trans Kc2749 (own_all3 (Or.inr sz_b2272) (Or.inr sz_b2446_2279) (Or.inr sz_na_2633))
        have pre2750 : ∀ t, Steps p.tables e below (T2749.setTop (mkF m 250 #[iv p0, iv p1, iv p2, iv p3, iv (3 : Int32), iv ln, rv r_2229, rv r_2232, iv s0, rv r_2239, rv r_2244, iv s1, rv r_2253, rv r_2260, iv s2, rv b2272, iv (1 : Int32), iv (1 : Int32)] [])) t → Steps p.tables e below (s₁.setTop (entryFrame m #[(.int p0), (.int p1), (.int p2), (.int p3)] maxLocals)) t := fun t kt => pre2748 _ (st2749.trans kt)
        have XF2751 : Ext h2260 h2749 := own_ext_keep XF2739 Kc2749 (own_all3 zF_b2272 zF_b2446_2279 zF_na_2633)
        rcases own_sync p2 l4 with ⟨hs2752a, hs2752b⟩ | ⟨hs2752a, hs2752b⟩
        · rw [← hs2] at hs2752a
          have F2753 : Fld Z h2749 b2272 "com/example/homethread/homethread/cli/ScenarioReport" "differs" "Z" (.int (1 : Int32)) := own_fldcast J2749_2 (own_dif0 hs2752b)
          have pre2754 : ∀ t, Steps p.tables e below (T2749.setTop (mkF m 274 #[iv p0, iv p1, iv p2, iv p3, iv (3 : Int32), iv ln, rv r_2229, rv r_2232, iv s0, rv r_2239, rv r_2244, iv s1, rv r_2253, rv r_2260, iv s2, rv b2272, iv (1 : Int32), iv (1 : Int32)] [(.ref b2272)])) t → Steps p.tables e below (s₁.setTop (entryFrame m #[(.int p0), (.int p1), (.int p2), (.int p3)] maxLocals)) t := fun t kt => by
            refine pre2750 _ ?_
            show Steps p.tables e below (T2749.setTop (mkF m 250 #[iv p0, iv p1, iv p2, iv p3, iv (3 : Int32), iv ln, rv r_2229, rv r_2232, iv s0, rv r_2239, rv r_2244, iv s1, rv r_2253, rv r_2260, iv s2, rv b2272, iv (1 : Int32), iv (1 : Int32)] [])) _
            refine XS.iload X2749.here hx rfl (hb hby at_250) rfl ?_
            refine XS.ifYes X2749.here hx rfl (pc0 := 252) (pc' := 260) rfl (hb hby at_252) rfl (XT.i0_ne_t (by decide)) (by decide) (by decide) ?_
            refine XS.iconst X2749.here hx rfl (hb hby at_260) ?_
            refine XS.goto X2749.here hx rfl (pc0 := 261) (pc' := 265) rfl (hb hby at_261) (by decide) (by decide) ?_
            refine XS.istore X2749.here hx rfl (hb hby at_265) rfl (l' := #[iv p0, iv p1, iv p2, iv p3, iv (3 : Int32), iv ln, rv r_2229, rv r_2232, iv s0, rv r_2239, rv r_2244, iv s1, rv r_2253, rv r_2260, iv s2, rv b2272, iv (1 : Int32), iv (1 : Int32)]) rfl ?_
            refine XS.iload X2749.here hx rfl (hb hby at_267) rfl ?_
            refine XS.ifNo X2749.here hx rfl (hb hby at_269) rfl (XT.i0_eq_f (by decide)) ?_
            refine XS.aload X2749.here hx rfl (hb hby at_272) rfl rfl ?_
            exact kt
          obtain ⟨cq2755, kq2755, q2755a, q2755b, q2755c⟩ := isOf hZ e2749 J2749_0
          obtain ⟨_, _, ⟨T2755, L2755, k2755, n2755⟩, -, X2755, ⟨Lc2755, hQ2755, l2755, y2755, z2755⟩, st2755⟩ := X2749.virtualBack hx (y := (⟨"com/example/homethread/homethread/cli/ScenarioReport", "exitStatus", "()I"⟩ : MethodName)) (z := (⟨"com/example/homethread/homethread/cli/ScenarioReport", "exitStatus", "()I"⟩ : MethodName)) hown (mvT hZ (W 82 rfl)) (mvT hZ (W 83 rfl)) (notFace_of_selects (args := #[]) (mvT hZ (W 85 rfl))) (mvT hZ (W 85 rfl)) (mvT hZ (W 84 rfl)) (by decide) (backOf (W := 0) (rm_exitStatus17_1 l Z a0 hw [] b2272 h2749 n0 O2749 F2753) hZ (W 86 rfl) (W 51 rfl) (by decide) (by decide)) q2755a q2755c (g := (mkF m 274 #[iv p0, iv p1, iv p2, iv p3, iv (3 : Int32), iv ln, rv r_2229, rv r_2232, iv s0, rv r_2239, rv r_2244, iv s1, rv r_2253, rv r_2260, iv s2, rv b2272, iv (1 : Int32), iv (1 : Int32)] [(.ref b2272)])) rfl (by rw [hml]; rfl) (Steps.refl _) (argsL := []) (rest := []) (lenOf pd_50 rfl) rfl (by show 2 * 0 + _ ≤ _; exact Nat.le_of_eq rfl) (hb hby at_274) (fun _ _ => ⟨rfl, e2749, (by decide : 21 + 0 ≤ _), (by decide : 63 + 0 ≤ _)⟩)
          dsimp only [Pt.U, Pt.locs, Pt.cells, Pt.slots] at X2755 l2755 y2755 z2755 st2755 hQ2755
          subst l2755 y2755 z2755
          obtain ⟨rfl, M2755, e2755⟩ := hQ2755
          have N2755 := Fr.app N2749 M2755
          have pre2756 : ∀ t, Steps p.tables e below (T2755.setTop (mkF m 277 #[iv p0, iv p1, iv p2, iv p3, iv (3 : Int32), iv ln, rv r_2229, rv r_2232, iv s0, rv r_2239, rv r_2244, iv s1, rv r_2253, rv r_2260, iv s2, rv b2272, iv (1 : Int32), iv (1 : Int32)] [(.int (1 : Int32))])) t → Steps p.tables e below (s₁.setTop (entryFrame m #[(.int p0), (.int p1), (.int p2), (.int p3)] maxLocals)) t := fun t kt => pre2754 _ (st2755.trans kt)
          have pre2757 : ∀ t, Steps p.tables e below (T2755.setTop (mkF m 279 #[iv p0, iv p1, iv p2, iv p3, iv (3 : Int32), iv ln, rv r_2229, rv r_2232, iv s0, rv r_2239, rv r_2244, iv s1, rv r_2253, rv r_2260, iv s2, rv b2272, iv (1 : Int32), iv (1 : Int32)] [(.int (1 : Int32)), (.int (1 : Int32))])) t → Steps p.tables e below (s₁.setTop (entryFrame m #[(.int p0), (.int p1), (.int p2), (.int p3)] maxLocals)) t := fun t kt => by
            refine pre2756 _ ?_
            show Steps p.tables e below (T2755.setTop (mkF m 277 #[iv p0, iv p1, iv p2, iv p3, iv (3 : Int32), iv ln, rv r_2229, rv r_2232, iv s0, rv r_2239, rv r_2244, iv s1, rv r_2253, rv r_2260, iv s2, rv b2272, iv (1 : Int32), iv (1 : Int32)] [(.int (1 : Int32))])) _
            refine XS.iload X2755.here hx rfl (hb hby at_277) rfl ?_
            exact kt
          obtain ⟨_, _, ⟨T2758, L2758, k2758, n2758⟩, -, X2758, ⟨Lc2758, hQ2758, l2758, y2758, z2758⟩, st2758⟩ := Jvm.LawKit.callS X2755 hx (y := (⟨"com/example/homethread/homethread/cli/ScenarioReportExitStatusPinLaw", "want", "(Z)I"⟩ : MethodName)) hown (mvT hZ (W 139 rfl)) (mvT hZ (W 140 rfl)) (mvT hZ (W 2 rfl)) (mvT hZ (W 141 rfl)) (by decide) (backOf (W := 1) (rm_want26_1 l Z a0 hw [] h2749 n0 O2749) hZ (W 141 rfl) (W 2 rfl) (by decide) (by decide)) (g := (mkF m 279 #[iv p0, iv p1, iv p2, iv p3, iv (3 : Int32), iv ln, rv r_2229, rv r_2232, iv s0, rv r_2239, rv r_2244, iv s1, rv r_2253, rv r_2260, iv s2, rv b2272, iv (1 : Int32), iv (1 : Int32)] [(.int (1 : Int32)), (.int (1 : Int32))])) rfl (by rw [hml]; rfl) (argsL := [(.int (1 : Int32))]) (rest := [(.int (1 : Int32))]) (lenOf pd_52 rfl) rfl (by show 2 * 0 + _ ≤ _; exact Nat.le_of_eq rfl) (hb hby at_279) (fun _ _ => ⟨rfl, e2755, (by decide : 21 + 0 ≤ _), (by decide : 63 + 0 ≤ _)⟩)
          dsimp only [Pt.U, Pt.locs, Pt.cells, Pt.slots] at X2758 l2758 y2758 z2758 st2758 hQ2758
          subst l2758 y2758 z2758
          obtain ⟨rfl, M2758, e2758⟩ := hQ2758
          have N2758 := Fr.app N2755 M2758
          have pre2759 : ∀ t, Steps p.tables e below (T2758.setTop (mkF m 282 #[iv p0, iv p1, iv p2, iv p3, iv (3 : Int32), iv ln, rv r_2229, rv r_2232, iv s0, rv r_2239, rv r_2244, iv s1, rv r_2253, rv r_2260, iv s2, rv b2272, iv (1 : Int32), iv (1 : Int32)] [(.int (1 : Int32)), (.int (1 : Int32))])) t → Steps p.tables e below (s₁.setTop (entryFrame m #[(.int p0), (.int p1), (.int p2), (.int p3)] maxLocals)) t := fun t kt => pre2757 _ (st2758 _ kt)
          have pre2760 : ∀ t, Steps p.tables e below (T2758.setTop (mkF m 299 #[iv p0, iv p1, iv p2, iv p3, iv (3 : Int32), iv ln, rv r_2229, rv r_2232, iv s0, rv r_2239, rv r_2244, iv s1, rv r_2253, rv r_2260, iv s2, rv b2272, iv (1 : Int32), iv (1 : Int32)] [(.ref b2272)])) t → Steps p.tables e below (s₁.setTop (entryFrame m #[(.int p0), (.int p1), (.int p2), (.int p3)] maxLocals)) t := fun t kt => by
            refine pre2759 _ ?_
            show Steps p.tables e below (T2758.setTop (mkF m 282 #[iv p0, iv p1, iv p2, iv p3, iv (3 : Int32), iv ln, rv r_2229, rv r_2232, iv s0, rv r_2239, rv r_2244, iv s1, rv r_2253, rv r_2260, iv s2, rv b2272, iv (1 : Int32), iv (1 : Int32)] [(.int (1 : Int32)), (.int (1 : Int32))])) _
            refine XS.icmpNo X2758.here hx rfl (hb hby at_282) rfl (XT.ii_ne_f (by decide)) ?_
            refine XS.iconst X2758.here hx rfl (hb hby at_285) ?_
            refine XS.goto X2758.here hx rfl (pc0 := 286) (pc' := 290) rfl (hb hby at_286) (by decide) (by decide) ?_
            refine XS.istore X2758.here hx rfl (hb hby at_290) rfl (l' := #[iv p0, iv p1, iv p2, iv p3, iv (3 : Int32), iv ln, rv r_2229, rv r_2232, iv s0, rv r_2239, rv r_2244, iv s1, rv r_2253, rv r_2260, iv s2, rv b2272, iv (1 : Int32), iv (1 : Int32)]) rfl ?_
            refine XS.iload X2758.here hx rfl (hb hby at_292) rfl ?_
            refine XS.ifNo X2758.here hx rfl (hb hby at_294) rfl (XT.i0_eq_f (by decide)) ?_
            refine XS.aload X2758.here hx rfl (hb hby at_297) rfl rfl ?_
            exact kt
          obtain ⟨cq2761, kq2761, q2761a, q2761b, q2761c⟩ := isOf hZ e2758 J2749_0
          obtain ⟨_, _, ⟨T2761, L2761, k2761, n2761⟩, -, X2761, ⟨Lc2761, hQ2761, l2761, y2761, z2761⟩, st2761⟩ := X2758.virtualBack hx (y := (⟨"com/example/homethread/homethread/cli/ScenarioReport", "exitStatus", "()I"⟩ : MethodName)) (z := (⟨"com/example/homethread/homethread/cli/ScenarioReport", "exitStatus", "()I"⟩ : MethodName)) hown (mvT hZ (W 82 rfl)) (mvT hZ (W 83 rfl)) (notFace_of_selects (args := #[]) (mvT hZ (W 85 rfl))) (mvT hZ (W 85 rfl)) (mvT hZ (W 84 rfl)) (by decide) (backOf (W := 0) (rm_exitStatus17_1 l Z a0 hw [] b2272 h2749 n0 O2749 F2753) hZ (W 86 rfl) (W 51 rfl) (by decide) (by decide)) q2761a q2761c (g := (mkF m 299 #[iv p0, iv p1, iv p2, iv p3, iv (3 : Int32), iv ln, rv r_2229, rv r_2232, iv s0, rv r_2239, rv r_2244, iv s1, rv r_2253, rv r_2260, iv s2, rv b2272, iv (1 : Int32), iv (1 : Int32)] [(.ref b2272)])) rfl (by rw [hml]; rfl) (Steps.refl _) (argsL := []) (rest := []) (lenOf pd_50 rfl) rfl (by show 2 * 0 + _ ≤ _; exact Nat.le_of_eq rfl) (hb hby at_299) (fun _ _ => ⟨rfl, e2758, (by decide : 21 + 0 ≤ _), (by decide : 63 + 0 ≤ _)⟩)
          dsimp only [Pt.U, Pt.locs, Pt.cells, Pt.slots] at X2761 l2761 y2761 z2761 st2761 hQ2761
          subst l2761 y2761 z2761
          obtain ⟨rfl, M2761, e2761⟩ := hQ2761
          have N2761 := Fr.app N2758 M2761
          have pre2762 : ∀ t, Steps p.tables e below (T2761.setTop (mkF m 302 #[iv p0, iv p1, iv p2, iv p3, iv (3 : Int32), iv ln, rv r_2229, rv r_2232, iv s0, rv r_2239, rv r_2244, iv s1, rv r_2253, rv r_2260, iv s2, rv b2272, iv (1 : Int32), iv (1 : Int32)] [(.int (1 : Int32))])) t → Steps p.tables e below (s₁.setTop (entryFrame m #[(.int p0), (.int p1), (.int p2), (.int p3)] maxLocals)) t := fun t kt => pre2760 _ (st2761.trans kt)
          have pre2763 : ∀ t, Steps p.tables e below (T2761.setTop (mkF m 304 #[iv p0, iv p1, iv p2, iv p3, iv (3 : Int32), iv ln, rv r_2229, rv r_2232, iv s0, rv r_2239, rv r_2244, iv s1, rv r_2253, rv r_2260, iv s2, rv b2272, iv (1 : Int32), iv (1 : Int32)] [(.int (1 : Int32)), (.int (1 : Int32))])) t → Steps p.tables e below (s₁.setTop (entryFrame m #[(.int p0), (.int p1), (.int p2), (.int p3)] maxLocals)) t := fun t kt => by
            refine pre2762 _ ?_
            show Steps p.tables e below (T2761.setTop (mkF m 302 #[iv p0, iv p1, iv p2, iv p3, iv (3 : Int32), iv ln, rv r_2229, rv r_2232, iv s0, rv r_2239, rv r_2244, iv s1, rv r_2253, rv r_2260, iv s2, rv b2272, iv (1 : Int32), iv (1 : Int32)] [(.int (1 : Int32))])) _
            refine XS.iload X2761.here hx rfl (hb hby at_302) rfl ?_
            exact kt
          obtain ⟨_, _, ⟨T2764, L2764, k2764, n2764⟩, -, X2764, ⟨Lc2764, hQ2764, l2764, y2764, z2764⟩, st2764⟩ := Jvm.LawKit.callS X2761 hx (y := (⟨"com/example/homethread/homethread/cli/ScenarioReportExitStatusPinLaw", "want", "(Z)I"⟩ : MethodName)) hown (mvT hZ (W 139 rfl)) (mvT hZ (W 140 rfl)) (mvT hZ (W 2 rfl)) (mvT hZ (W 141 rfl)) (by decide) (backOf (W := 1) (rm_want26_1 l Z a0 hw [] h2749 n0 O2749) hZ (W 141 rfl) (W 2 rfl) (by decide) (by decide)) (g := (mkF m 304 #[iv p0, iv p1, iv p2, iv p3, iv (3 : Int32), iv ln, rv r_2229, rv r_2232, iv s0, rv r_2239, rv r_2244, iv s1, rv r_2253, rv r_2260, iv s2, rv b2272, iv (1 : Int32), iv (1 : Int32)] [(.int (1 : Int32)), (.int (1 : Int32))])) rfl (by rw [hml]; rfl) (argsL := [(.int (1 : Int32))]) (rest := [(.int (1 : Int32))]) (lenOf pd_52 rfl) rfl (by show 2 * 0 + _ ≤ _; exact Nat.le_of_eq rfl) (hb hby at_304) (fun _ _ => ⟨rfl, e2761, (by decide : 21 + 0 ≤ _), (by decide : 63 + 0 ≤ _)⟩)
          dsimp only [Pt.U, Pt.locs, Pt.cells, Pt.slots] at X2764 l2764 y2764 z2764 st2764 hQ2764
          subst l2764 y2764 z2764
          obtain ⟨rfl, M2764, e2764⟩ := hQ2764
          have N2764 := Fr.app N2761 M2764
          have pre2765 : ∀ t, Steps p.tables e below (T2764.setTop (mkF m 307 #[iv p0, iv p1, iv p2, iv p3, iv (3 : Int32), iv ln, rv r_2229, rv r_2232, iv s0, rv r_2239, rv r_2244, iv s1, rv r_2253, rv r_2260, iv s2, rv b2272, iv (1 : Int32), iv (1 : Int32)] [(.int (1 : Int32)), (.int (1 : Int32))])) t → Steps p.tables e below (s₁.setTop (entryFrame m #[(.int p0), (.int p1), (.int p2), (.int p3)] maxLocals)) t := fun t kt => pre2763 _ (st2764 _ kt)
          have pre2766 : ∀ t, Steps p.tables e below (T2764.setTop (mkF m 319 #[iv p0, iv p1, iv p2, iv p3, iv (3 : Int32), iv ln, rv r_2229, rv r_2232, iv s0, rv r_2239, rv r_2244, iv s1, rv r_2253, rv r_2260, iv s2, rv b2272, iv (1 : Int32), iv (1 : Int32)] [(.int (1 : Int32))])) t → Steps p.tables e below (s₁.setTop (entryFrame m #[(.int p0), (.int p1), (.int p2), (.int p3)] maxLocals)) t := fun t kt => by
            refine pre2765 _ ?_
            show Steps p.tables e below (T2764.setTop (mkF m 307 #[iv p0, iv p1, iv p2, iv p3, iv (3 : Int32), iv ln, rv r_2229, rv r_2232, iv s0, rv r_2239, rv r_2244, iv s1, rv r_2253, rv r_2260, iv s2, rv b2272, iv (1 : Int32), iv (1 : Int32)] [(.int (1 : Int32)), (.int (1 : Int32))])) _
            refine XS.icmpNo X2764.here hx rfl (hb hby at_307) rfl (XT.ii_ne_f (by decide)) ?_
            refine XS.iconst X2764.here hx rfl (hb hby at_310) ?_
            refine XS.goto X2764.here hx rfl (pc0 := 311) (pc' := 315) rfl (hb hby at_311) (by decide) (by decide) ?_
            refine XS.istore X2764.here hx rfl (hb hby at_315) rfl (l' := #[iv p0, iv p1, iv p2, iv p3, iv (3 : Int32), iv ln, rv r_2229, rv r_2232, iv s0, rv r_2239, rv r_2244, iv s1, rv r_2253, rv r_2260, iv s2, rv b2272, iv (1 : Int32), iv (1 : Int32)]) rfl ?_
            refine XS.iload X2764.here hx rfl (hb hby at_317) rfl ?_
            exact kt
          obtain ⟨fs, hr, hrun, hended, hW, hsame⟩ := X2764.leave (v := some (.int (1 : Int32))) (fun h => by rw [Bd.returns] at h; cases h)
          refine ⟨_, _, pre2766 _ (retN X2764 hx (t := .boolean) Bd.returns (by simp) (hb hby at_319) hr), hrun, hended, _, _, rfl, ?_, ⟨_, rfl⟩, hW, hsame.mono (by decide) (by decide)⟩
          show Q_law Z p0 p1 p2 p3 cz ad kd h0 n0 _ T2764.heap _
          rw [e2764]
          exact ⟨rfl, N2764⟩
        · rw [← hs2] at hs2752a
          have F2767 : Fld Z h2749 b2272 "com/example/homethread/homethread/cli/ScenarioReport" "differs" "Z" (.int (1 : Int32)) := own_fldcast J2749_2 (own_dif1 hs2752b)
          have pre2768 : ∀ t, Steps p.tables e below (T2749.setTop (mkF m 274 #[iv p0, iv p1, iv p2, iv p3, iv (3 : Int32), iv ln, rv r_2229, rv r_2232, iv s0, rv r_2239, rv r_2244, iv s1, rv r_2253, rv r_2260, iv s2, rv b2272, iv (1 : Int32), iv (1 : Int32)] [(.ref b2272)])) t → Steps p.tables e below (s₁.setTop (entryFrame m #[(.int p0), (.int p1), (.int p2), (.int p3)] maxLocals)) t := fun t kt => by
            refine pre2750 _ ?_
            show Steps p.tables e below (T2749.setTop (mkF m 250 #[iv p0, iv p1, iv p2, iv p3, iv (3 : Int32), iv ln, rv r_2229, rv r_2232, iv s0, rv r_2239, rv r_2244, iv s1, rv r_2253, rv r_2260, iv s2, rv b2272, iv (1 : Int32), iv (1 : Int32)] [])) _
            refine XS.iload X2749.here hx rfl (hb hby at_250) rfl ?_
            refine XS.ifYes X2749.here hx rfl (pc0 := 252) (pc' := 260) rfl (hb hby at_252) rfl (XT.i0_ne_t (by decide)) (by decide) (by decide) ?_
            refine XS.iconst X2749.here hx rfl (hb hby at_260) ?_
            refine XS.goto X2749.here hx rfl (pc0 := 261) (pc' := 265) rfl (hb hby at_261) (by decide) (by decide) ?_
            refine XS.istore X2749.here hx rfl (hb hby at_265) rfl (l' := #[iv p0, iv p1, iv p2, iv p3, iv (3 : Int32), iv ln, rv r_2229, rv r_2232, iv s0, rv r_2239, rv r_2244, iv s1, rv r_2253, rv r_2260, iv s2, rv b2272, iv (1 : Int32), iv (1 : Int32)]) rfl ?_
            refine XS.iload X2749.here hx rfl (hb hby at_267) rfl ?_
            refine XS.ifNo X2749.here hx rfl (hb hby at_269) rfl (XT.i0_eq_f (by decide)) ?_
            refine XS.aload X2749.here hx rfl (hb hby at_272) rfl rfl ?_
            exact kt
          obtain ⟨cq2769, kq2769, q2769a, q2769b, q2769c⟩ := isOf hZ e2749 J2749_0
          obtain ⟨_, _, ⟨T2769, L2769, k2769, n2769⟩, -, X2769, ⟨Lc2769, hQ2769, l2769, y2769, z2769⟩, st2769⟩ := X2749.virtualBack hx (y := (⟨"com/example/homethread/homethread/cli/ScenarioReport", "exitStatus", "()I"⟩ : MethodName)) (z := (⟨"com/example/homethread/homethread/cli/ScenarioReport", "exitStatus", "()I"⟩ : MethodName)) hown (mvT hZ (W 82 rfl)) (mvT hZ (W 83 rfl)) (notFace_of_selects (args := #[]) (mvT hZ (W 85 rfl))) (mvT hZ (W 85 rfl)) (mvT hZ (W 84 rfl)) (by decide) (backOf (W := 0) (rm_exitStatus17_1 l Z a0 hw [] b2272 h2749 n0 O2749 F2767) hZ (W 86 rfl) (W 51 rfl) (by decide) (by decide)) q2769a q2769c (g := (mkF m 274 #[iv p0, iv p1, iv p2, iv p3, iv (3 : Int32), iv ln, rv r_2229, rv r_2232, iv s0, rv r_2239, rv r_2244, iv s1, rv r_2253, rv r_2260, iv s2, rv b2272, iv (1 : Int32), iv (1 : Int32)] [(.ref b2272)])) rfl (by rw [hml]; rfl) (Steps.refl _) (argsL := []) (rest := []) (lenOf pd_50 rfl) rfl (by show 2 * 0 + _ ≤ _; exact Nat.le_of_eq rfl) (hb hby at_274) (fun _ _ => ⟨rfl, e2749, (by decide : 21 + 0 ≤ _), (by decide : 63 + 0 ≤ _)⟩)
          dsimp only [Pt.U, Pt.locs, Pt.cells, Pt.slots] at X2769 l2769 y2769 z2769 st2769 hQ2769
          subst l2769 y2769 z2769
          obtain ⟨rfl, M2769, e2769⟩ := hQ2769
          have N2769 := Fr.app N2749 M2769
          have pre2770 : ∀ t, Steps p.tables e below (T2769.setTop (mkF m 277 #[iv p0, iv p1, iv p2, iv p3, iv (3 : Int32), iv ln, rv r_2229, rv r_2232, iv s0, rv r_2239, rv r_2244, iv s1, rv r_2253, rv r_2260, iv s2, rv b2272, iv (1 : Int32), iv (1 : Int32)] [(.int (1 : Int32))])) t → Steps p.tables e below (s₁.setTop (entryFrame m #[(.int p0), (.int p1), (.int p2), (.int p3)] maxLocals)) t := fun t kt => pre2768 _ (st2769.trans kt)
          have pre2771 : ∀ t, Steps p.tables e below (T2769.setTop (mkF m 279 #[iv p0, iv p1, iv p2, iv p3, iv (3 : Int32), iv ln, rv r_2229, rv r_2232, iv s0, rv r_2239, rv r_2244, iv s1, rv r_2253, rv r_2260, iv s2, rv b2272, iv (1 : Int32), iv (1 : Int32)] [(.int (1 : Int32)), (.int (1 : Int32))])) t → Steps p.tables e below (s₁.setTop (entryFrame m #[(.int p0), (.int p1), (.int p2), (.int p3)] maxLocals)) t := fun t kt => by
            refine pre2770 _ ?_
            show Steps p.tables e below (T2769.setTop (mkF m 277 #[iv p0, iv p1, iv p2, iv p3, iv (3 : Int32), iv ln, rv r_2229, rv r_2232, iv s0, rv r_2239, rv r_2244, iv s1, rv r_2253, rv r_2260, iv s2, rv b2272, iv (1 : Int32), iv (1 : Int32)] [(.int (1 : Int32))])) _
            refine XS.iload X2769.here hx rfl (hb hby at_277) rfl ?_
            exact kt
          obtain ⟨_, _, ⟨T2772, L2772, k2772, n2772⟩, -, X2772, ⟨Lc2772, hQ2772, l2772, y2772, z2772⟩, st2772⟩ := Jvm.LawKit.callS X2769 hx (y := (⟨"com/example/homethread/homethread/cli/ScenarioReportExitStatusPinLaw", "want", "(Z)I"⟩ : MethodName)) hown (mvT hZ (W 139 rfl)) (mvT hZ (W 140 rfl)) (mvT hZ (W 2 rfl)) (mvT hZ (W 141 rfl)) (by decide) (backOf (W := 1) (rm_want26_1 l Z a0 hw [] h2749 n0 O2749) hZ (W 141 rfl) (W 2 rfl) (by decide) (by decide)) (g := (mkF m 279 #[iv p0, iv p1, iv p2, iv p3, iv (3 : Int32), iv ln, rv r_2229, rv r_2232, iv s0, rv r_2239, rv r_2244, iv s1, rv r_2253, rv r_2260, iv s2, rv b2272, iv (1 : Int32), iv (1 : Int32)] [(.int (1 : Int32)), (.int (1 : Int32))])) rfl (by rw [hml]; rfl) (argsL := [(.int (1 : Int32))]) (rest := [(.int (1 : Int32))]) (lenOf pd_52 rfl) rfl (by show 2 * 0 + _ ≤ _; exact Nat.le_of_eq rfl) (hb hby at_279) (fun _ _ => ⟨rfl, e2769, (by decide : 21 + 0 ≤ _), (by decide : 63 + 0 ≤ _)⟩)
          dsimp only [Pt.U, Pt.locs, Pt.cells, Pt.slots] at X2772 l2772 y2772 z2772 st2772 hQ2772
          subst l2772 y2772 z2772
          obtain ⟨rfl, M2772, e2772⟩ := hQ2772
          have N2772 := Fr.app N2769 M2772
          have pre2773 : ∀ t, Steps p.tables e below (T2772.setTop (mkF m 282 #[iv p0, iv p1, iv p2, iv p3, iv (3 : Int32), iv ln, rv r_2229, rv r_2232, iv s0, rv r_2239, rv r_2244, iv s1, rv r_2253, rv r_2260, iv s2, rv b2272, iv (1 : Int32), iv (1 : Int32)] [(.int (1 : Int32)), (.int (1 : Int32))])) t → Steps p.tables e below (s₁.setTop (entryFrame m #[(.int p0), (.int p1), (.int p2), (.int p3)] maxLocals)) t := fun t kt => pre2771 _ (st2772 _ kt)
          have pre2774 : ∀ t, Steps p.tables e below (T2772.setTop (mkF m 299 #[iv p0, iv p1, iv p2, iv p3, iv (3 : Int32), iv ln, rv r_2229, rv r_2232, iv s0, rv r_2239, rv r_2244, iv s1, rv r_2253, rv r_2260, iv s2, rv b2272, iv (1 : Int32), iv (1 : Int32)] [(.ref b2272)])) t → Steps p.tables e below (s₁.setTop (entryFrame m #[(.int p0), (.int p1), (.int p2), (.int p3)] maxLocals)) t := fun t kt => by
            refine pre2773 _ ?_
            show Steps p.tables e below (T2772.setTop (mkF m 282 #[iv p0, iv p1, iv p2, iv p3, iv (3 : Int32), iv ln, rv r_2229, rv r_2232, iv s0, rv r_2239, rv r_2244, iv s1, rv r_2253, rv r_2260, iv s2, rv b2272, iv (1 : Int32), iv (1 : Int32)] [(.int (1 : Int32)), (.int (1 : Int32))])) _
            refine XS.icmpNo X2772.here hx rfl (hb hby at_282) rfl (XT.ii_ne_f (by decide)) ?_
            refine XS.iconst X2772.here hx rfl (hb hby at_285) ?_
            refine XS.goto X2772.here hx rfl (pc0 := 286) (pc' := 290) rfl (hb hby at_286) (by decide) (by decide) ?_
            refine XS.istore X2772.here hx rfl (hb hby at_290) rfl (l' := #[iv p0, iv p1, iv p2, iv p3, iv (3 : Int32), iv ln, rv r_2229, rv r_2232, iv s0, rv r_2239, rv r_2244, iv s1, rv r_2253, rv r_2260, iv s2, rv b2272, iv (1 : Int32), iv (1 : Int32)]) rfl ?_
            refine XS.iload X2772.here hx rfl (hb hby at_292) rfl ?_
            refine XS.ifNo X2772.here hx rfl (hb hby at_294) rfl (XT.i0_eq_f (by decide)) ?_
            refine XS.aload X2772.here hx rfl (hb hby at_297) rfl rfl ?_
            exact kt
          obtain ⟨cq2775, kq2775, q2775a, q2775b, q2775c⟩ := isOf hZ e2772 J2749_0
          obtain ⟨_, _, ⟨T2775, L2775, k2775, n2775⟩, -, X2775, ⟨Lc2775, hQ2775, l2775, y2775, z2775⟩, st2775⟩ := X2772.virtualBack hx (y := (⟨"com/example/homethread/homethread/cli/ScenarioReport", "exitStatus", "()I"⟩ : MethodName)) (z := (⟨"com/example/homethread/homethread/cli/ScenarioReport", "exitStatus", "()I"⟩ : MethodName)) hown (mvT hZ (W 82 rfl)) (mvT hZ (W 83 rfl)) (notFace_of_selects (args := #[]) (mvT hZ (W 85 rfl))) (mvT hZ (W 85 rfl)) (mvT hZ (W 84 rfl)) (by decide) (backOf (W := 0) (rm_exitStatus17_1 l Z a0 hw [] b2272 h2749 n0 O2749 F2767) hZ (W 86 rfl) (W 51 rfl) (by decide) (by decide)) q2775a q2775c (g := (mkF m 299 #[iv p0, iv p1, iv p2, iv p3, iv (3 : Int32), iv ln, rv r_2229, rv r_2232, iv s0, rv r_2239, rv r_2244, iv s1, rv r_2253, rv r_2260, iv s2, rv b2272, iv (1 : Int32), iv (1 : Int32)] [(.ref b2272)])) rfl (by rw [hml]; rfl) (Steps.refl _) (argsL := []) (rest := []) (lenOf pd_50 rfl) rfl (by show 2 * 0 + _ ≤ _; exact Nat.le_of_eq rfl) (hb hby at_299) (fun _ _ => ⟨rfl, e2772, (by decide : 21 + 0 ≤ _), (by decide : 63 + 0 ≤ _)⟩)
          dsimp only [Pt.U, Pt.locs, Pt.cells, Pt.slots] at X2775 l2775 y2775 z2775 st2775 hQ2775
          subst l2775 y2775 z2775
          obtain ⟨rfl, M2775, e2775⟩ := hQ2775
          have N2775 := Fr.app N2772 M2775
          have pre2776 : ∀ t, Steps p.tables e below (T2775.setTop (mkF m 302 #[iv p0, iv p1, iv p2, iv p3, iv (3 : Int32), iv ln, rv r_2229, rv r_2232, iv s0, rv r_2239, rv r_2244, iv s1, rv r_2253, rv r_2260, iv s2, rv b2272, iv (1 : Int32), iv (1 : Int32)] [(.int (1 : Int32))])) t → Steps p.tables e below (s₁.setTop (entryFrame m #[(.int p0), (.int p1), (.int p2), (.int p3)] maxLocals)) t := fun t kt => pre2774 _ (st2775.trans kt)
          have pre2777 : ∀ t, Steps p.tables e below (T2775.setTop (mkF m 304 #[iv p0, iv p1, iv p2, iv p3, iv (3 : Int32), iv ln, rv r_2229, rv r_2232, iv s0, rv r_2239, rv r_2244, iv s1, rv r_2253, rv r_2260, iv s2, rv b2272, iv (1 : Int32), iv (1 : Int32)] [(.int (1 : Int32)), (.int (1 : Int32))])) t → Steps p.tables e below (s₁.setTop (entryFrame m #[(.int p0), (.int p1), (.int p2), (.int p3)] maxLocals)) t := fun t kt => by
            refine pre2776 _ ?_
            show Steps p.tables e below (T2775.setTop (mkF m 302 #[iv p0, iv p1, iv p2, iv p3, iv (3 : Int32), iv ln, rv r_2229, rv r_2232, iv s0, rv r_2239, rv r_2244, iv s1, rv r_2253, rv r_2260, iv s2, rv b2272, iv (1 : Int32), iv (1 : Int32)] [(.int (1 : Int32))])) _
            refine XS.iload X2775.here hx rfl (hb hby at_302) rfl ?_
            exact kt
          obtain ⟨_, _, ⟨T2778, L2778, k2778, n2778⟩, -, X2778, ⟨Lc2778, hQ2778, l2778, y2778, z2778⟩, st2778⟩ := Jvm.LawKit.callS X2775 hx (y := (⟨"com/example/homethread/homethread/cli/ScenarioReportExitStatusPinLaw", "want", "(Z)I"⟩ : MethodName)) hown (mvT hZ (W 139 rfl)) (mvT hZ (W 140 rfl)) (mvT hZ (W 2 rfl)) (mvT hZ (W 141 rfl)) (by decide) (backOf (W := 1) (rm_want26_1 l Z a0 hw [] h2749 n0 O2749) hZ (W 141 rfl) (W 2 rfl) (by decide) (by decide)) (g := (mkF m 304 #[iv p0, iv p1, iv p2, iv p3, iv (3 : Int32), iv ln, rv r_2229, rv r_2232, iv s0, rv r_2239, rv r_2244, iv s1, rv r_2253, rv r_2260, iv s2, rv b2272, iv (1 : Int32), iv (1 : Int32)] [(.int (1 : Int32)), (.int (1 : Int32))])) rfl (by rw [hml]; rfl) (argsL := [(.int (1 : Int32))]) (rest := [(.int (1 : Int32))]) (lenOf pd_52 rfl) rfl (by show 2 * 0 + _ ≤ _; exact Nat.le_of_eq rfl) (hb hby at_304) (fun _ _ => ⟨rfl, e2775, (by decide : 21 + 0 ≤ _), (by decide : 63 + 0 ≤ _)⟩)
          dsimp only [Pt.U, Pt.locs, Pt.cells, Pt.slots] at X2778 l2778 y2778 z2778 st2778 hQ2778
          subst l2778 y2778 z2778
          obtain ⟨rfl, M2778, e2778⟩ := hQ2778
          have N2778 := Fr.app N2775 M2778
          have pre2779 : ∀ t, Steps p.tables e below (T2778.setTop (mkF m 307 #[iv p0, iv p1, iv p2, iv p3, iv (3 : Int32), iv ln, rv r_2229, rv r_2232, iv s0, rv r_2239, rv r_2244, iv s1, rv r_2253, rv r_2260, iv s2, rv b2272, iv (1 : Int32), iv (1 : Int32)] [(.int (1 : Int32)), (.int (1 : Int32))])) t → Steps p.tables e below (s₁.setTop (entryFrame m #[(.int p0), (.int p1), (.int p2), (.int p3)] maxLocals)) t := fun t kt => pre2777 _ (st2778 _ kt)
          have pre2780 : ∀ t, Steps p.tables e below (T2778.setTop (mkF m 319 #[iv p0, iv p1, iv p2, iv p3, iv (3 : Int32), iv ln, rv r_2229, rv r_2232, iv s0, rv r_2239, rv r_2244, iv s1, rv r_2253, rv r_2260, iv s2, rv b2272, iv (1 : Int32), iv (1 : Int32)] [(.int (1 : Int32))])) t → Steps p.tables e below (s₁.setTop (entryFrame m #[(.int p0), (.int p1), (.int p2), (.int p3)] maxLocals)) t := fun t kt => by
            refine pre2779 _ ?_
            show Steps p.tables e below (T2778.setTop (mkF m 307 #[iv p0, iv p1, iv p2, iv p3, iv (3 : Int32), iv ln, rv r_2229, rv r_2232, iv s0, rv r_2239, rv r_2244, iv s1, rv r_2253, rv r_2260, iv s2, rv b2272, iv (1 : Int32), iv (1 : Int32)] [(.int (1 : Int32)), (.int (1 : Int32))])) _
            refine XS.icmpNo X2778.here hx rfl (hb hby at_307) rfl (XT.ii_ne_f (by decide)) ?_
            refine XS.iconst X2778.here hx rfl (hb hby at_310) ?_
            refine XS.goto X2778.here hx rfl (pc0 := 311) (pc' := 315) rfl (hb hby at_311) (by decide) (by decide) ?_
            refine XS.istore X2778.here hx rfl (hb hby at_315) rfl (l' := #[iv p0, iv p1, iv p2, iv p3, iv (3 : Int32), iv ln, rv r_2229, rv r_2232, iv s0, rv r_2239, rv r_2244, iv s1, rv r_2253, rv r_2260, iv s2, rv b2272, iv (1 : Int32), iv (1 : Int32)]) rfl ?_
            refine XS.iload X2778.here hx rfl (hb hby at_317) rfl ?_
            exact kt
          obtain ⟨fs, hr, hrun, hended, hW, hsame⟩ := X2778.leave (v := some (.int (1 : Int32))) (fun h => by rw [Bd.returns] at h; cases h)
          refine ⟨_, _, pre2780 _ (retN X2778 hx (t := .boolean) Bd.returns (by simp) (hb hby at_319) hr), hrun, hended, _, _, rfl, ?_, ⟨_, rfl⟩, hW, hsame.mono (by decide) (by decide)⟩
          show Q_law Z p0 p1 p2 p3 cz ad kd h0 n0 _ T2778.heap _
          rw [e2778]
          exact ⟨rfl, N2778⟩
      · rw [← hs1] at hs2740a
        have F2781 : Fld Z h2737 b2272 "com/example/homethread/homethread/cli/ScenarioReport" "differs" "Z" (.int (0 : Int32)) := own_fldcast J2737_2 (own_dif1 hs2740b)
        have pre2782 : ∀ t, Steps p.tables e below (T2737.setTop (mkF m 217 #[iv p0, iv p1, iv p2, iv p3, iv (3 : Int32), iv ln, rv r_2229, rv r_2232, iv s0, rv r_2239, rv r_2244, iv s1, rv r_2253, rv r_2260, iv s2, rv b2272, iv (1 : Int32), iv (0 : Int32)] [(.ref b2272)])) t → Steps p.tables e below (s₁.setTop (entryFrame m #[(.int p0), (.int p1), (.int p2), (.int p3)] maxLocals)) t := fun t kt => by
          refine pre2738 _ ?_
          show Steps p.tables e below (T2737.setTop (mkF m 193 #[iv p0, iv p1, iv p2, iv p3, iv (3 : Int32), iv ln, rv r_2229, rv r_2232, iv s0, rv r_2239, rv r_2244, iv s1, rv r_2253, rv r_2260, iv s2, rv b2272, iv (1 : Int32), iv (0 : Int32)] [])) _
          refine XS.iload X2737.here hx rfl (hb hby at_193) rfl ?_
          refine XS.ifNo X2737.here hx rfl (hb hby at_195) rfl (XT.i0_ne_f (by decide)) ?_
          refine XS.iload X2737.here hx rfl (hb hby at_198) rfl ?_
          refine XS.ifYes X2737.here hx rfl (pc0 := 200) (pc' := 207) rfl (hb hby at_200) rfl (XT.i0_ne_t hs2740a) (by decide) (by decide) ?_
          refine XS.iconst X2737.here hx rfl (hb hby at_207) ?_
          refine XS.istore X2737.here hx rfl (hb hby at_208) rfl (l' := #[iv p0, iv p1, iv p2, iv p3, iv (3 : Int32), iv ln, rv r_2229, rv r_2232, iv s0, rv r_2239, rv r_2244, iv s1, rv r_2253, rv r_2260, iv s2, rv b2272, iv (1 : Int32), iv (0 : Int32)]) rfl ?_
          refine XS.iload X2737.here hx rfl (hb hby at_210) rfl ?_
          refine XS.ifNo X2737.here hx rfl (hb hby at_212) rfl (XT.i0_eq_f (by decide)) ?_
          show Steps p.tables e below (T2737.setTop (mkF m 215 #[iv p0, iv p1, iv p2, iv p3, iv (3 : Int32), iv ln, rv r_2229, rv r_2232, iv s0, rv r_2239, rv r_2244, iv s1, rv r_2253, rv r_2260, iv s2, rv b2272, iv (1 : Int32), iv (0 : Int32)] [])) _
          refine XS.aload X2737.here hx rfl (hb hby at_215) rfl rfl ?_
          exact kt
        obtain ⟨cq2783, kq2783, q2783a, q2783b, q2783c⟩ := isOf hZ e2737 J2737_0
        obtain ⟨_, _, ⟨T2783, L2783, k2783, n2783⟩, -, X2783, ⟨Lc2783, hQ2783, l2783, y2783, z2783⟩, st2783⟩ := X2737.virtualBack hx (y := (⟨"com/example/homethread/homethread/cli/ScenarioReport", "exitStatus", "()I"⟩ : MethodName)) (z := (⟨"com/example/homethread/homethread/cli/ScenarioReport", "exitStatus", "()I"⟩ : MethodName)) hown (mvT hZ (W 82 rfl)) (mvT hZ (W 83 rfl)) (notFace_of_selects (args := #[]) (mvT hZ (W 85 rfl))) (mvT hZ (W 85 rfl)) (mvT hZ (W 84 rfl)) (by decide) (backOf (W := 0) (rm_exitStatus17_0 l Z a0 hw [] b2272 h2737 n0 O2737 F2781) hZ (W 86 rfl) (W 51 rfl) (by decide) (by decide)) q2783a q2783c (g := (mkF m 217 #[iv p0, iv p1, iv p2, iv p3, iv (3 : Int32), iv ln, rv r_2229, rv r_2232, iv s0, rv r_2239, rv r_2244, iv s1, rv r_2253, rv r_2260, iv s2, rv b2272, iv (1 : Int32), iv (0 : Int32)] [(.ref b2272)])) rfl (by rw [hml]; rfl) (Steps.refl _) (argsL := []) (rest := []) (lenOf pd_50 rfl) rfl (by show 2 * 0 + _ ≤ _; exact Nat.le_of_eq rfl) (hb hby at_217) (fun _ _ => ⟨rfl, e2737, (by decide : 21 + 0 ≤ _), (by decide : 63 + 0 ≤ _)⟩)
        dsimp only [Pt.U, Pt.locs, Pt.cells, Pt.slots] at X2783 l2783 y2783 z2783 st2783 hQ2783
        subst l2783 y2783 z2783
        obtain ⟨rfl, M2783, e2783⟩ := hQ2783
        have N2783 := Fr.app N2737 M2783
        have pre2784 : ∀ t, Steps p.tables e below (T2783.setTop (mkF m 220 #[iv p0, iv p1, iv p2, iv p3, iv (3 : Int32), iv ln, rv r_2229, rv r_2232, iv s0, rv r_2239, rv r_2244, iv s1, rv r_2253, rv r_2260, iv s2, rv b2272, iv (1 : Int32), iv (0 : Int32)] [(.int (0 : Int32))])) t → Steps p.tables e below (s₁.setTop (entryFrame m #[(.int p0), (.int p1), (.int p2), (.int p3)] maxLocals)) t := fun t kt => pre2782 _ (st2783.trans kt)
        have pre2785 : ∀ t, Steps p.tables e below (T2783.setTop (mkF m 222 #[iv p0, iv p1, iv p2, iv p3, iv (3 : Int32), iv ln, rv r_2229, rv r_2232, iv s0, rv r_2239, rv r_2244, iv s1, rv r_2253, rv r_2260, iv s2, rv b2272, iv (1 : Int32), iv (0 : Int32)] [(.int (0 : Int32)), (.int (0 : Int32))])) t → Steps p.tables e below (s₁.setTop (entryFrame m #[(.int p0), (.int p1), (.int p2), (.int p3)] maxLocals)) t := fun t kt => by
          refine pre2784 _ ?_
          show Steps p.tables e below (T2783.setTop (mkF m 220 #[iv p0, iv p1, iv p2, iv p3, iv (3 : Int32), iv ln, rv r_2229, rv r_2232, iv s0, rv r_2239, rv r_2244, iv s1, rv r_2253, rv r_2260, iv s2, rv b2272, iv (1 : Int32), iv (0 : Int32)] [(.int (0 : Int32))])) _
          refine XS.iload X2783.here hx rfl (hb hby at_220) rfl ?_
          exact kt
        obtain ⟨_, _, ⟨T2786, L2786, k2786, n2786⟩, -, X2786, ⟨Lc2786, hQ2786, l2786, y2786, z2786⟩, st2786⟩ := Jvm.LawKit.callS X2783 hx (y := (⟨"com/example/homethread/homethread/cli/ScenarioReportExitStatusPinLaw", "want", "(Z)I"⟩ : MethodName)) hown (mvT hZ (W 139 rfl)) (mvT hZ (W 140 rfl)) (mvT hZ (W 2 rfl)) (mvT hZ (W 141 rfl)) (by decide) (backOf (W := 1) (rm_want26_0 l Z a0 hw [] h2737 n0 O2737) hZ (W 141 rfl) (W 2 rfl) (by decide) (by decide)) (g := (mkF m 222 #[iv p0, iv p1, iv p2, iv p3, iv (3 : Int32), iv ln, rv r_2229, rv r_2232, iv s0, rv r_2239, rv r_2244, iv s1, rv r_2253, rv r_2260, iv s2, rv b2272, iv (1 : Int32), iv (0 : Int32)] [(.int (0 : Int32)), (.int (0 : Int32))])) rfl (by rw [hml]; rfl) (argsL := [(.int (0 : Int32))]) (rest := [(.int (0 : Int32))]) (lenOf pd_52 rfl) rfl (by show 2 * 0 + _ ≤ _; exact Nat.le_of_eq rfl) (hb hby at_222) (fun _ _ => ⟨rfl, e2783, (by decide : 21 + 0 ≤ _), (by decide : 63 + 0 ≤ _)⟩)
        dsimp only [Pt.U, Pt.locs, Pt.cells, Pt.slots] at X2786 l2786 y2786 z2786 st2786 hQ2786
        subst l2786 y2786 z2786
        obtain ⟨rfl, M2786, e2786⟩ := hQ2786
        have N2786 := Fr.app N2783 M2786
        have pre2787 : ∀ t, Steps p.tables e below (T2786.setTop (mkF m 225 #[iv p0, iv p1, iv p2, iv p3, iv (3 : Int32), iv ln, rv r_2229, rv r_2232, iv s0, rv r_2239, rv r_2244, iv s1, rv r_2253, rv r_2260, iv s2, rv b2272, iv (1 : Int32), iv (0 : Int32)] [(.int (0 : Int32)), (.int (0 : Int32))])) t → Steps p.tables e below (s₁.setTop (entryFrame m #[(.int p0), (.int p1), (.int p2), (.int p3)] maxLocals)) t := fun t kt => pre2785 _ (st2786 _ kt)
        have pre2788 : ∀ t, Steps p.tables e below (T2786.setTop (mkF m 247 #[iv p0, iv p1, iv p2, iv p3, iv (3 : Int32), iv ln, rv r_2229, rv r_2232, iv s0, rv r_2239, rv r_2244, iv s1, rv r_2253, rv r_2260, iv s2, rv b2272, iv (1 : Int32), iv (0 : Int32)] [(.ref r_2260), (.ref r_2253), (.ref b2272)])) t → Steps p.tables e below (s₁.setTop (entryFrame m #[(.int p0), (.int p1), (.int p2), (.int p3)] maxLocals)) t := fun t kt => by
          refine pre2787 _ ?_
          show Steps p.tables e below (T2786.setTop (mkF m 225 #[iv p0, iv p1, iv p2, iv p3, iv (3 : Int32), iv ln, rv r_2229, rv r_2232, iv s0, rv r_2239, rv r_2244, iv s1, rv r_2253, rv r_2260, iv s2, rv b2272, iv (1 : Int32), iv (0 : Int32)] [(.int (0 : Int32)), (.int (0 : Int32))])) _
          refine XS.icmpNo X2786.here hx rfl (hb hby at_225) rfl (XT.ii_ne_f (by decide)) ?_
          refine XS.iconst X2786.here hx rfl (hb hby at_228) ?_
          refine XS.goto X2786.here hx rfl (pc0 := 229) (pc' := 233) rfl (hb hby at_229) (by decide) (by decide) ?_
          refine XS.istore X2786.here hx rfl (hb hby at_233) rfl (l' := #[iv p0, iv p1, iv p2, iv p3, iv (3 : Int32), iv ln, rv r_2229, rv r_2232, iv s0, rv r_2239, rv r_2244, iv s1, rv r_2253, rv r_2260, iv s2, rv b2272, iv (1 : Int32), iv (0 : Int32)]) rfl ?_
          refine XS.iload X2786.here hx rfl (hb hby at_235) rfl ?_
          refine XS.iconst X2786.here hx rfl (hb hby at_237) ?_
          refine XS.icmpNo X2786.here hx rfl (hb hby at_238) rfl (XT.ii_lt_f (by decide)) ?_
          refine XS.aload X2786.here hx rfl (hb hby at_241) rfl rfl ?_
          show Steps p.tables e below (T2786.setTop (mkF m 243 #[iv p0, iv p1, iv p2, iv p3, iv (3 : Int32), iv ln, rv r_2229, rv r_2232, iv s0, rv r_2239, rv r_2244, iv s1, rv r_2253, rv r_2260, iv s2, rv b2272, iv (1 : Int32), iv (0 : Int32)] [(.ref b2272)])) _
          refine XS.aload X2786.here hx rfl (hb hby at_243) rfl rfl ?_
          refine XS.aload X2786.here hx rfl (hb hby at_245) rfl rfl ?_
          exact kt
        obtain ⟨cq2789, kq2789, q2789a, q2789b, q2789c⟩ := isOf hZ e2786 J2737_0
        obtain ⟨_, _, ⟨T2789, L2789, k2789, n2789⟩, -, X2789, ⟨Lc2789, hQ2789, l2789, y2789, z2789⟩, st2789⟩ := X2786.virtualBack hx (y := (⟨"com/example/homethread/homethread/cli/ScenarioReport", "expectLine", "(Ljava/lang/String;Ljava/lang/String;)V"⟩ : MethodName)) (z := (⟨"com/example/homethread/homethread/cli/ScenarioReport", "expectLine", "(Ljava/lang/String;Ljava/lang/String;)V"⟩ : MethodName)) hown (mvT hZ (W 89 rfl)) (mvT hZ (W 90 rfl)) (notFace_of_selects (args := #[]) (mvT hZ (W 92 rfl))) (mvT hZ (W 92 rfl)) (mvT hZ (W 91 rfl)) (by decide) (backOf (W := 0) (rm_line2 l Z a0 hw [] b2272 r_2253 r_2260 cz ad kd b2446_2279 ((((0 : Int32) + (1 : Int32)) + (1 : Int32))) ((0 : Int32)) ((l4 &&& (2 : Int32))) ((own_b ((p2 &&& (255 : Int32)) ^^^ (own_x0 p2)))) ((own_b ((((p2.toUInt32 >>> ((8 : Int32) &&& 31).toUInt32).toInt32) &&& (255 : Int32)) ^^^ (own_x1 p2)))) ((l4 &&& (1 : Int32))) ((own_b (p2 &&& (255 : Int32)))) ((own_b (((p2.toUInt32 >>> ((8 : Int32) &&& 31).toUInt32).toInt32) &&& (255 : Int32)))) na_2633 kna_2633 ((.ref r_2232)) ((.ref r_2244)) h2737 n0 O2737 G0 G1 G2 G3 g_b2272 g_b2446_2279 g_na_2633 J2737_0 J2737_1 F2781 J2737_3 J2737_4 J2737_5 J2737_6 J2737_7 J2737_8 J2737_9 qz (fun q => ne_r_2253_r_2260 q.symm) (Or.inl rfl) ne_b2272_b2446_2279 ne_b2272_na_2633 ne_b2446_2279_na_2633 h2260 XF2739 J2260_0 F2266 zF_b2272 zF_b2446_2279 zF_na_2633) hZ (W 93 rfl) (W 51 rfl) (by decide) (by decide)) q2789a q2789c (g := (mkF m 247 #[iv p0, iv p1, iv p2, iv p3, iv (3 : Int32), iv ln, rv r_2229, rv r_2232, iv s0, rv r_2239, rv r_2244, iv s1, rv r_2253, rv r_2260, iv s2, rv b2272, iv (1 : Int32), iv (0 : Int32)] [(.ref r_2260), (.ref r_2253), (.ref b2272)])) rfl (by rw [hml]; rfl) (Steps.refl _) (argsL := [(.ref r_2253), (.ref r_2260)]) (rest := []) (lenOf pd_53 rfl) rfl (by show 2 * 0 + _ ≤ _; exact Nat.le_of_eq rfl) (hb hby at_247) (fun _ _ => ⟨rfl, e2786, (by decide : 21 + 0 ≤ _), (by decide : 63 + 0 ≤ _)⟩)
        dsimp only [Pt.U, Pt.locs, Pt.cells, Pt.slots] at X2789 l2789 y2789 z2789 st2789 hQ2789
        subst l2789 y2789 z2789
        obtain ⟨rfl, M2789, Kc2789, O2789, J2789_0, J2789_1, J2789_2, J2789_3, J2789_4, J2789_5, J2789_6, J2789_7, J2789_8, J2789_9⟩ := hQ2789
        obtain ⟨h2789, e2789⟩ : ∃ z, T2789.heap = z := ⟨_, rfl⟩
        rw [e2789] at Kc2789 O2789 J2789_0 J2789_1 J2789_2 J2789_3 J2789_4 J2789_5 J2789_6 J2789_7 J2789_8
        have N2789 := Fr.app N2786 M2789
        have K2789 : Keep h0 h2789 [] := K2737.trans Kc2789 (own_all3 (Or.inr sz_b2272) (Or.inr sz_b2446_2279) (Or.inr sz_na_2633))
        have pre2790 : ∀ t, Steps p.tables e below (T2789.setTop (mkF m 250 #[iv p0, iv p1, iv p2, iv p3, iv (3 : Int32), iv ln, rv r_2229, rv r_2232, iv s0, rv r_2239, rv r_2244, iv s1, rv r_2253, rv r_2260, iv s2, rv b2272, iv (1 : Int32), iv (0 : Int32)] [])) t → Steps p.tables e below (s₁.setTop (entryFrame m #[(.int p0), (.int p1), (.int p2), (.int p3)] maxLocals)) t := fun t kt => pre2788 _ (st2789.trans kt)
        have XF2791 : Ext h2260 h2789 := own_ext_keep XF2739 Kc2789 (own_all3 zF_b2272 zF_b2446_2279 zF_na_2633)
        rcases own_sync p2 l4 with ⟨hs2792a, hs2792b⟩ | ⟨hs2792a, hs2792b⟩
        · rw [← hs2] at hs2792a
          have F2793 : Fld Z h2789 b2272 "com/example/homethread/homethread/cli/ScenarioReport" "differs" "Z" (.int (1 : Int32)) := own_fldcast J2789_2 (own_dif0 hs2792b)
          have pre2794 : ∀ t, Steps p.tables e below (T2789.setTop (mkF m 274 #[iv p0, iv p1, iv p2, iv p3, iv (3 : Int32), iv ln, rv r_2229, rv r_2232, iv s0, rv r_2239, rv r_2244, iv s1, rv r_2253, rv r_2260, iv s2, rv b2272, iv (1 : Int32), iv (1 : Int32)] [(.ref b2272)])) t → Steps p.tables e below (s₁.setTop (entryFrame m #[(.int p0), (.int p1), (.int p2), (.int p3)] maxLocals)) t := fun t kt => by
            refine pre2790 _ ?_
            show Steps p.tables e below (T2789.setTop (mkF m 250 #[iv p0, iv p1, iv p2, iv p3, iv (3 : Int32), iv ln, rv r_2229, rv r_2232, iv s0, rv r_2239, rv r_2244, iv s1, rv r_2253, rv r_2260, iv s2, rv b2272, iv (1 : Int32), iv (0 : Int32)] [])) _
            refine XS.iload X2789.here hx rfl (hb hby at_250) rfl ?_
            refine XS.ifNo X2789.here hx rfl (hb hby at_252) rfl (XT.i0_ne_f (by decide)) ?_
            refine XS.iload X2789.here hx rfl (hb hby at_255) rfl ?_
            refine XS.ifNo X2789.here hx rfl (hb hby at_257) rfl (XT.i0_ne_f hs2792a) ?_
            refine XS.iconst X2789.here hx rfl (hb hby at_260) ?_
            refine XS.goto X2789.here hx rfl (pc0 := 261) (pc' := 265) rfl (hb hby at_261) (by decide) (by decide) ?_
            refine XS.istore X2789.here hx rfl (hb hby at_265) rfl (l' := #[iv p0, iv p1, iv p2, iv p3, iv (3 : Int32), iv ln, rv r_2229, rv r_2232, iv s0, rv r_2239, rv r_2244, iv s1, rv r_2253, rv r_2260, iv s2, rv b2272, iv (1 : Int32), iv (1 : Int32)]) rfl ?_
            refine XS.iload X2789.here hx rfl (hb hby at_267) rfl ?_
            show Steps p.tables e below (T2789.setTop (mkF m 269 #[iv p0, iv p1, iv p2, iv p3, iv (3 : Int32), iv ln, rv r_2229, rv r_2232, iv s0, rv r_2239, rv r_2244, iv s1, rv r_2253, rv r_2260, iv s2, rv b2272, iv (1 : Int32), iv (1 : Int32)] [(.int (1 : Int32))])) _
            refine XS.ifNo X2789.here hx rfl (hb hby at_269) rfl (XT.i0_eq_f (by decide)) ?_
            refine XS.aload X2789.here hx rfl (hb hby at_272) rfl rfl ?_
            exact kt
          obtain ⟨cq2795, kq2795, q2795a, q2795b, q2795c⟩ := isOf hZ e2789 J2789_0
          obtain ⟨_, _, ⟨T2795, L2795, k2795, n2795⟩, -, X2795, ⟨Lc2795, hQ2795, l2795, y2795, z2795⟩, st2795⟩ := X2789.virtualBack hx (y := (⟨"com/example/homethread/homethread/cli/ScenarioReport", "exitStatus", "()I"⟩ : MethodName)) (z := (⟨"com/example/homethread/homethread/cli/ScenarioReport", "exitStatus", "()I"⟩ : MethodName)) hown (mvT hZ (W 82 rfl)) (mvT hZ (W 83 rfl)) (notFace_of_selects (args := #[]) (mvT hZ (W 85 rfl))) (mvT hZ (W 85 rfl)) (mvT hZ (W 84 rfl)) (by decide) (backOf (W := 0) (rm_exitStatus17_1 l Z a0 hw [] b2272 h2789 n0 O2789 F2793) hZ (W 86 rfl) (W 51 rfl) (by decide) (by decide)) q2795a q2795c (g := (mkF m 274 #[iv p0, iv p1, iv p2, iv p3, iv (3 : Int32), iv ln, rv r_2229, rv r_2232, iv s0, rv r_2239, rv r_2244, iv s1, rv r_2253, rv r_2260, iv s2, rv b2272, iv (1 : Int32), iv (1 : Int32)] [(.ref b2272)])) rfl (by rw [hml]; rfl) (Steps.refl _) (argsL := []) (rest := []) (lenOf pd_50 rfl) rfl (by show 2 * 0 + _ ≤ _; exact Nat.le_of_eq rfl) (hb hby at_274) (fun _ _ => ⟨rfl, e2789, (by decide : 21 + 0 ≤ _), (by decide : 63 + 0 ≤ _)⟩)
          dsimp only [Pt.U, Pt.locs, Pt.cells, Pt.slots] at X2795 l2795 y2795 z2795 st2795 hQ2795
          subst l2795 y2795 z2795
          obtain ⟨rfl, M2795, e2795⟩ := hQ2795
          have N2795 := Fr.app N2789 M2795
          have pre2796 : ∀ t, Steps p.tables e below (T2795.setTop (mkF m 277 #[iv p0, iv p1, iv p2, iv p3, iv (3 : Int32), iv ln, rv r_2229, rv r_2232, iv s0, rv r_2239, rv r_2244, iv s1, rv r_2253, rv r_2260, iv s2, rv b2272, iv (1 : Int32), iv (1 : Int32)] [(.int (1 : Int32))])) t → Steps p.tables e below (s₁.setTop (entryFrame m #[(.int p0), (.int p1), (.int p2), (.int p3)] maxLocals)) t := fun t kt => pre2794 _ (st2795.trans kt)
          have pre2797 : ∀ t, Steps p.tables e below (T2795.setTop (mkF m 279 #[iv p0, iv p1, iv p2, iv p3, iv (3 : Int32), iv ln, rv r_2229, rv r_2232, iv s0, rv r_2239, rv r_2244, iv s1, rv r_2253, rv r_2260, iv s2, rv b2272, iv (1 : Int32), iv (1 : Int32)] [(.int (1 : Int32)), (.int (1 : Int32))])) t → Steps p.tables e below (s₁.setTop (entryFrame m #[(.int p0), (.int p1), (.int p2), (.int p3)] maxLocals)) t := fun t kt => by
            refine pre2796 _ ?_
            show Steps p.tables e below (T2795.setTop (mkF m 277 #[iv p0, iv p1, iv p2, iv p3, iv (3 : Int32), iv ln, rv r_2229, rv r_2232, iv s0, rv r_2239, rv r_2244, iv s1, rv r_2253, rv r_2260, iv s2, rv b2272, iv (1 : Int32), iv (1 : Int32)] [(.int (1 : Int32))])) _
            refine XS.iload X2795.here hx rfl (hb hby at_277) rfl ?_
            exact kt
          obtain ⟨_, _, ⟨T2798, L2798, k2798, n2798⟩, -, X2798, ⟨Lc2798, hQ2798, l2798, y2798, z2798⟩, st2798⟩ := Jvm.LawKit.callS X2795 hx (y := (⟨"com/example/homethread/homethread/cli/ScenarioReportExitStatusPinLaw", "want", "(Z)I"⟩ : MethodName)) hown (mvT hZ (W 139 rfl)) (mvT hZ (W 140 rfl)) (mvT hZ (W 2 rfl)) (mvT hZ (W 141 rfl)) (by decide) (backOf (W := 1) (rm_want26_1 l Z a0 hw [] h2789 n0 O2789) hZ (W 141 rfl) (W 2 rfl) (by decide) (by decide)) (g := (mkF m 279 #[iv p0, iv p1, iv p2, iv p3, iv (3 : Int32), iv ln, rv r_2229, rv r_2232, iv s0, rv r_2239, rv r_2244, iv s1, rv r_2253, rv r_2260, iv s2, rv b2272, iv (1 : Int32), iv (1 : Int32)] [(.int (1 : Int32)), (.int (1 : Int32))])) rfl (by rw [hml]; rfl) (argsL := [(.int (1 : Int32))]) (rest := [(.int (1 : Int32))]) (lenOf pd_52 rfl) rfl (by show 2 * 0 + _ ≤ _; exact Nat.le_of_eq rfl) (hb hby at_279) (fun _ _ => ⟨rfl, e2795, (by decide : 21 + 0 ≤ _), (by decide : 63 + 0 ≤ _)⟩)
          dsimp only [Pt.U, Pt.locs, Pt.cells, Pt.slots] at X2798 l2798 y2798 z2798 st2798 hQ2798
          subst l2798 y2798 z2798
          obtain ⟨rfl, M2798, e2798⟩ := hQ2798
          have N2798 := Fr.app N2795 M2798
          have pre2799 : ∀ t, Steps p.tables e below (T2798.setTop (mkF m 282 #[iv p0, iv p1, iv p2, iv p3, iv (3 : Int32), iv ln, rv r_2229, rv r_2232, iv s0, rv r_2239, rv r_2244, iv s1, rv r_2253, rv r_2260, iv s2, rv b2272, iv (1 : Int32), iv (1 : Int32)] [(.int (1 : Int32)), (.int (1 : Int32))])) t → Steps p.tables e below (s₁.setTop (entryFrame m #[(.int p0), (.int p1), (.int p2), (.int p3)] maxLocals)) t := fun t kt => pre2797 _ (st2798 _ kt)
          have pre2800 : ∀ t, Steps p.tables e below (T2798.setTop (mkF m 299 #[iv p0, iv p1, iv p2, iv p3, iv (3 : Int32), iv ln, rv r_2229, rv r_2232, iv s0, rv r_2239, rv r_2244, iv s1, rv r_2253, rv r_2260, iv s2, rv b2272, iv (1 : Int32), iv (1 : Int32)] [(.ref b2272)])) t → Steps p.tables e below (s₁.setTop (entryFrame m #[(.int p0), (.int p1), (.int p2), (.int p3)] maxLocals)) t := fun t kt => by
            refine pre2799 _ ?_
            show Steps p.tables e below (T2798.setTop (mkF m 282 #[iv p0, iv p1, iv p2, iv p3, iv (3 : Int32), iv ln, rv r_2229, rv r_2232, iv s0, rv r_2239, rv r_2244, iv s1, rv r_2253, rv r_2260, iv s2, rv b2272, iv (1 : Int32), iv (1 : Int32)] [(.int (1 : Int32)), (.int (1 : Int32))])) _
            refine XS.icmpNo X2798.here hx rfl (hb hby at_282) rfl (XT.ii_ne_f (by decide)) ?_
            refine XS.iconst X2798.here hx rfl (hb hby at_285) ?_
            refine XS.goto X2798.here hx rfl (pc0 := 286) (pc' := 290) rfl (hb hby at_286) (by decide) (by decide) ?_
            refine XS.istore X2798.here hx rfl (hb hby at_290) rfl (l' := #[iv p0, iv p1, iv p2, iv p3, iv (3 : Int32), iv ln, rv r_2229, rv r_2232, iv s0, rv r_2239, rv r_2244, iv s1, rv r_2253, rv r_2260, iv s2, rv b2272, iv (1 : Int32), iv (1 : Int32)]) rfl ?_
            refine XS.iload X2798.here hx rfl (hb hby at_292) rfl ?_
            refine XS.ifNo X2798.here hx rfl (hb hby at_294) rfl (XT.i0_eq_f (by decide)) ?_
            refine XS.aload X2798.here hx rfl (hb hby at_297) rfl rfl ?_
            exact kt
          obtain ⟨cq2801, kq2801, q2801a, q2801b, q2801c⟩ := isOf hZ e2798 J2789_0
          obtain ⟨_, _, ⟨T2801, L2801, k2801, n2801⟩, -, X2801, ⟨Lc2801, hQ2801, l2801, y2801, z2801⟩, st2801⟩ := X2798.virtualBack hx (y := (⟨"com/example/homethread/homethread/cli/ScenarioReport", "exitStatus", "()I"⟩ : MethodName)) (z := (⟨"com/example/homethread/homethread/cli/ScenarioReport", "exitStatus", "()I"⟩ : MethodName)) hown (mvT hZ (W 82 rfl)) (mvT hZ (W 83 rfl)) (notFace_of_selects (args := #[]) (mvT hZ (W 85 rfl))) (mvT hZ (W 85 rfl)) (mvT hZ (W 84 rfl)) (by decide) (backOf (W := 0) (rm_exitStatus17_1 l Z a0 hw [] b2272 h2789 n0 O2789 F2793) hZ (W 86 rfl) (W 51 rfl) (by decide) (by decide)) q2801a q2801c (g := (mkF m 299 #[iv p0, iv p1, iv p2, iv p3, iv (3 : Int32), iv ln, rv r_2229, rv r_2232, iv s0, rv r_2239, rv r_2244, iv s1, rv r_2253, rv r_2260, iv s2, rv b2272, iv (1 : Int32), iv (1 : Int32)] [(.ref b2272)])) rfl (by rw [hml]; rfl) (Steps.refl _) (argsL := []) (rest := []) (lenOf pd_50 rfl) rfl (by show 2 * 0 + _ ≤ _; exact Nat.le_of_eq rfl) (hb hby at_299) (fun _ _ => ⟨rfl, e2798, (by decide : 21 + 0 ≤ _), (by decide : 63 + 0 ≤ _)⟩)
          dsimp only [Pt.U, Pt.locs, Pt.cells, Pt.slots] at X2801 l2801 y2801 z2801 st2801 hQ2801
          subst l2801 y2801 z2801
          obtain ⟨rfl, M2801, e2801⟩ := hQ2801
          have N2801 := Fr.app N2798 M2801
          have pre2802 : ∀ t, Steps p.tables e below (T2801.setTop (mkF m 302 #[iv p0, iv p1, iv p2, iv p3, iv (3 : Int32), iv ln, rv r_2229, rv r_2232, iv s0, rv r_2239, rv r_2244, iv s1, rv r_2253, rv r_2260, iv s2, rv b2272, iv (1 : Int32), iv (1 : Int32)] [(.int (1 : Int32))])) t → Steps p.tables e below (s₁.setTop (entryFrame m #[(.int p0), (.int p1), (.int p2), (.int p3)] maxLocals)) t := fun t kt => pre2800 _ (st2801.trans kt)
          have pre2803 : ∀ t, Steps p.tables e below (T2801.setTop (mkF m 304 #[iv p0, iv p1, iv p2, iv p3, iv (3 : Int32), iv ln, rv r_2229, rv r_2232, iv s0, rv r_2239, rv r_2244, iv s1, rv r_2253, rv r_2260, iv s2, rv b2272, iv (1 : Int32), iv (1 : Int32)] [(.int (1 : Int32)), (.int (1 : Int32))])) t → Steps p.tables e below (s₁.setTop (entryFrame m #[(.int p0), (.int p1), (.int p2), (.int p3)] maxLocals)) t := fun t kt => by
            refine pre2802 _ ?_
            show Steps p.tables e below (T2801.setTop (mkF m 302 #[iv p0, iv p1, iv p2, iv p3, iv (3 : Int32), iv ln, rv r_2229, rv r_2232, iv s0, rv r_2239, rv r_2244, iv s1, rv r_2253, rv r_2260, iv s2, rv b2272, iv (1 : Int32), iv (1 : Int32)] [(.int (1 : Int32))])) _
            refine XS.iload X2801.here hx rfl (hb hby at_302) rfl ?_
            exact kt
          obtain ⟨_, _, ⟨T2804, L2804, k2804, n2804⟩, -, X2804, ⟨Lc2804, hQ2804, l2804, y2804, z2804⟩, st2804⟩ := Jvm.LawKit.callS X2801 hx (y := (⟨"com/example/homethread/homethread/cli/ScenarioReportExitStatusPinLaw", "want", "(Z)I"⟩ : MethodName)) hown (mvT hZ (W 139 rfl)) (mvT hZ (W 140 rfl)) (mvT hZ (W 2 rfl)) (mvT hZ (W 141 rfl)) (by decide) (backOf (W := 1) (rm_want26_1 l Z a0 hw [] h2789 n0 O2789) hZ (W 141 rfl) (W 2 rfl) (by decide) (by decide)) (g := (mkF m 304 #[iv p0, iv p1, iv p2, iv p3, iv (3 : Int32), iv ln, rv r_2229, rv r_2232, iv s0, rv r_2239, rv r_2244, iv s1, rv r_2253, rv r_2260, iv s2, rv b2272, iv (1 : Int32), iv (1 : Int32)] [(.int (1 : Int32)), (.int (1 : Int32))])) rfl (by rw [hml]; rfl) (argsL := [(.int (1 : Int32))]) (rest := [(.int (1 : Int32))]) (lenOf pd_52 rfl) rfl (by show 2 * 0 + _ ≤ _; exact Nat.le_of_eq rfl) (hb hby at_304) (fun _ _ => ⟨rfl, e2801, (by decide : 21 + 0 ≤ _), (by decide : 63 + 0 ≤ _)⟩)
          dsimp only [Pt.U, Pt.locs, Pt.cells, Pt.slots] at X2804 l2804 y2804 z2804 st2804 hQ2804
          subst l2804 y2804 z2804
          obtain ⟨rfl, M2804, e2804⟩ := hQ2804
          have N2804 := Fr.app N2801 M2804
          have pre2805 : ∀ t, Steps p.tables e below (T2804.setTop (mkF m 307 #[iv p0, iv p1, iv p2, iv p3, iv (3 : Int32), iv ln, rv r_2229, rv r_2232, iv s0, rv r_2239, rv r_2244, iv s1, rv r_2253, rv r_2260, iv s2, rv b2272, iv (1 : Int32), iv (1 : Int32)] [(.int (1 : Int32)), (.int (1 : Int32))])) t → Steps p.tables e below (s₁.setTop (entryFrame m #[(.int p0), (.int p1), (.int p2), (.int p3)] maxLocals)) t := fun t kt => pre2803 _ (st2804 _ kt)
          have pre2806 : ∀ t, Steps p.tables e below (T2804.setTop (mkF m 319 #[iv p0, iv p1, iv p2, iv p3, iv (3 : Int32), iv ln, rv r_2229, rv r_2232, iv s0, rv r_2239, rv r_2244, iv s1, rv r_2253, rv r_2260, iv s2, rv b2272, iv (1 : Int32), iv (1 : Int32)] [(.int (1 : Int32))])) t → Steps p.tables e below (s₁.setTop (entryFrame m #[(.int p0), (.int p1), (.int p2), (.int p3)] maxLocals)) t := fun t kt => by
            refine pre2805 _ ?_
            show Steps p.tables e below (T2804.setTop (mkF m 307 #[iv p0, iv p1, iv p2, iv p3, iv (3 : Int32), iv ln, rv r_2229, rv r_2232, iv s0, rv r_2239, rv r_2244, iv s1, rv r_2253, rv r_2260, iv s2, rv b2272, iv (1 : Int32), iv (1 : Int32)] [(.int (1 : Int32)), (.int (1 : Int32))])) _
            refine XS.icmpNo X2804.here hx rfl (hb hby at_307) rfl (XT.ii_ne_f (by decide)) ?_
            refine XS.iconst X2804.here hx rfl (hb hby at_310) ?_
            refine XS.goto X2804.here hx rfl (pc0 := 311) (pc' := 315) rfl (hb hby at_311) (by decide) (by decide) ?_
            refine XS.istore X2804.here hx rfl (hb hby at_315) rfl (l' := #[iv p0, iv p1, iv p2, iv p3, iv (3 : Int32), iv ln, rv r_2229, rv r_2232, iv s0, rv r_2239, rv r_2244, iv s1, rv r_2253, rv r_2260, iv s2, rv b2272, iv (1 : Int32), iv (1 : Int32)]) rfl ?_
            refine XS.iload X2804.here hx rfl (hb hby at_317) rfl ?_
            exact kt
          obtain ⟨fs, hr, hrun, hended, hW, hsame⟩ := X2804.leave (v := some (.int (1 : Int32))) (fun h => by rw [Bd.returns] at h; cases h)
          refine ⟨_, _, pre2806 _ (retN X2804 hx (t := .boolean) Bd.returns (by simp) (hb hby at_319) hr), hrun, hended, _, _, rfl, ?_, ⟨_, rfl⟩, hW, hsame.mono (by decide) (by decide)⟩
          show Q_law Z p0 p1 p2 p3 cz ad kd h0 n0 _ T2804.heap _
          rw [e2804]
          exact ⟨rfl, N2804⟩
        · rw [← hs2] at hs2792a
          have F2807 : Fld Z h2789 b2272 "com/example/homethread/homethread/cli/ScenarioReport" "differs" "Z" (.int (0 : Int32)) := own_fldcast J2789_2 (own_dif1 hs2792b)
          have pre2808 : ∀ t, Steps p.tables e below (T2789.setTop (mkF m 274 #[iv p0, iv p1, iv p2, iv p3, iv (3 : Int32), iv ln, rv r_2229, rv r_2232, iv s0, rv r_2239, rv r_2244, iv s1, rv r_2253, rv r_2260, iv s2, rv b2272, iv (1 : Int32), iv (0 : Int32)] [(.ref b2272)])) t → Steps p.tables e below (s₁.setTop (entryFrame m #[(.int p0), (.int p1), (.int p2), (.int p3)] maxLocals)) t := fun t kt => by
            refine pre2790 _ ?_
            show Steps p.tables e below (T2789.setTop (mkF m 250 #[iv p0, iv p1, iv p2, iv p3, iv (3 : Int32), iv ln, rv r_2229, rv r_2232, iv s0, rv r_2239, rv r_2244, iv s1, rv r_2253, rv r_2260, iv s2, rv b2272, iv (1 : Int32), iv (0 : Int32)] [])) _
            refine XS.iload X2789.here hx rfl (hb hby at_250) rfl ?_
            refine XS.ifNo X2789.here hx rfl (hb hby at_252) rfl (XT.i0_ne_f (by decide)) ?_
            refine XS.iload X2789.here hx rfl (hb hby at_255) rfl ?_
            refine XS.ifYes X2789.here hx rfl (pc0 := 257) (pc' := 264) rfl (hb hby at_257) rfl (XT.i0_ne_t hs2792a) (by decide) (by decide) ?_
            refine XS.iconst X2789.here hx rfl (hb hby at_264) ?_
            refine XS.istore X2789.here hx rfl (hb hby at_265) rfl (l' := #[iv p0, iv p1, iv p2, iv p3, iv (3 : Int32), iv ln, rv r_2229, rv r_2232, iv s0, rv r_2239, rv r_2244, iv s1, rv r_2253, rv r_2260, iv s2, rv b2272, iv (1 : Int32), iv (0 : Int32)]) rfl ?_
            refine XS.iload X2789.here hx rfl (hb hby at_267) rfl ?_
            refine XS.ifNo X2789.here hx rfl (hb hby at_269) rfl (XT.i0_eq_f (by decide)) ?_
            show Steps p.tables e below (T2789.setTop (mkF m 272 #[iv p0, iv p1, iv p2, iv p3, iv (3 : Int32), iv ln, rv r_2229, rv r_2232, iv s0, rv r_2239, rv r_2244, iv s1, rv r_2253, rv r_2260, iv s2, rv b2272, iv (1 : Int32), iv (0 : Int32)] [])) _
            refine XS.aload X2789.here hx rfl (hb hby at_272) rfl rfl ?_
            exact kt
          obtain ⟨cq2809, kq2809, q2809a, q2809b, q2809c⟩ := isOf hZ e2789 J2789_0
          obtain ⟨_, _, ⟨T2809, L2809, k2809, n2809⟩, -, X2809, ⟨Lc2809, hQ2809, l2809, y2809, z2809⟩, st2809⟩ := X2789.virtualBack hx (y := (⟨"com/example/homethread/homethread/cli/ScenarioReport", "exitStatus", "()I"⟩ : MethodName)) (z := (⟨"com/example/homethread/homethread/cli/ScenarioReport", "exitStatus", "()I"⟩ : MethodName)) hown (mvT hZ (W 82 rfl)) (mvT hZ (W 83 rfl)) (notFace_of_selects (args := #[]) (mvT hZ (W 85 rfl))) (mvT hZ (W 85 rfl)) (mvT hZ (W 84 rfl)) (by decide) (backOf (W := 0) (rm_exitStatus17_0 l Z a0 hw [] b2272 h2789 n0 O2789 F2807) hZ (W 86 rfl) (W 51 rfl) (by decide) (by decide)) q2809a q2809c (g := (mkF m 274 #[iv p0, iv p1, iv p2, iv p3, iv (3 : Int32), iv ln, rv r_2229, rv r_2232, iv s0, rv r_2239, rv r_2244, iv s1, rv r_2253, rv r_2260, iv s2, rv b2272, iv (1 : Int32), iv (0 : Int32)] [(.ref b2272)])) rfl (by rw [hml]; rfl) (Steps.refl _) (argsL := []) (rest := []) (lenOf pd_50 rfl) rfl (by show 2 * 0 + _ ≤ _; exact Nat.le_of_eq rfl) (hb hby at_274) (fun _ _ => ⟨rfl, e2789, (by decide : 21 + 0 ≤ _), (by decide : 63 + 0 ≤ _)⟩)
          dsimp only [Pt.U, Pt.locs, Pt.cells, Pt.slots] at X2809 l2809 y2809 z2809 st2809 hQ2809
          subst l2809 y2809 z2809
          obtain ⟨rfl, M2809, e2809⟩ := hQ2809
          have N2809 := Fr.app N2789 M2809
          have pre2810 : ∀ t, Steps p.tables e below (T2809.setTop (mkF m 277 #[iv p0, iv p1, iv p2, iv p3, iv (3 : Int32), iv ln, rv r_2229, rv r_2232, iv s0, rv r_2239, rv r_2244, iv s1, rv r_2253, rv r_2260, iv s2, rv b2272, iv (1 : Int32), iv (0 : Int32)] [(.int (0 : Int32))])) t → Steps p.tables e below (s₁.setTop (entryFrame m #[(.int p0), (.int p1), (.int p2), (.int p3)] maxLocals)) t := fun t kt => pre2808 _ (st2809.trans kt)
          have pre2811 : ∀ t, Steps p.tables e below (T2809.setTop (mkF m 279 #[iv p0, iv p1, iv p2, iv p3, iv (3 : Int32), iv ln, rv r_2229, rv r_2232, iv s0, rv r_2239, rv r_2244, iv s1, rv r_2253, rv r_2260, iv s2, rv b2272, iv (1 : Int32), iv (0 : Int32)] [(.int (0 : Int32)), (.int (0 : Int32))])) t → Steps p.tables e below (s₁.setTop (entryFrame m #[(.int p0), (.int p1), (.int p2), (.int p3)] maxLocals)) t := fun t kt => by
            refine pre2810 _ ?_
            show Steps p.tables e below (T2809.setTop (mkF m 277 #[iv p0, iv p1, iv p2, iv p3, iv (3 : Int32), iv ln, rv r_2229, rv r_2232, iv s0, rv r_2239, rv r_2244, iv s1, rv r_2253, rv r_2260, iv s2, rv b2272, iv (1 : Int32), iv (0 : Int32)] [(.int (0 : Int32))])) _
            refine XS.iload X2809.here hx rfl (hb hby at_277) rfl ?_
            exact kt
          obtain ⟨_, _, ⟨T2812, L2812, k2812, n2812⟩, -, X2812, ⟨Lc2812, hQ2812, l2812, y2812, z2812⟩, st2812⟩ := Jvm.LawKit.callS X2809 hx (y := (⟨"com/example/homethread/homethread/cli/ScenarioReportExitStatusPinLaw", "want", "(Z)I"⟩ : MethodName)) hown (mvT hZ (W 139 rfl)) (mvT hZ (W 140 rfl)) (mvT hZ (W 2 rfl)) (mvT hZ (W 141 rfl)) (by decide) (backOf (W := 1) (rm_want26_0 l Z a0 hw [] h2789 n0 O2789) hZ (W 141 rfl) (W 2 rfl) (by decide) (by decide)) (g := (mkF m 279 #[iv p0, iv p1, iv p2, iv p3, iv (3 : Int32), iv ln, rv r_2229, rv r_2232, iv s0, rv r_2239, rv r_2244, iv s1, rv r_2253, rv r_2260, iv s2, rv b2272, iv (1 : Int32), iv (0 : Int32)] [(.int (0 : Int32)), (.int (0 : Int32))])) rfl (by rw [hml]; rfl) (argsL := [(.int (0 : Int32))]) (rest := [(.int (0 : Int32))]) (lenOf pd_52 rfl) rfl (by show 2 * 0 + _ ≤ _; exact Nat.le_of_eq rfl) (hb hby at_279) (fun _ _ => ⟨rfl, e2809, (by decide : 21 + 0 ≤ _), (by decide : 63 + 0 ≤ _)⟩)
          dsimp only [Pt.U, Pt.locs, Pt.cells, Pt.slots] at X2812 l2812 y2812 z2812 st2812 hQ2812
          subst l2812 y2812 z2812
          obtain ⟨rfl, M2812, e2812⟩ := hQ2812
          have N2812 := Fr.app N2809 M2812
          have pre2813 : ∀ t, Steps p.tables e below (T2812.setTop (mkF m 282 #[iv p0, iv p1, iv p2, iv p3, iv (3 : Int32), iv ln, rv r_2229, rv r_2232, iv s0, rv r_2239, rv r_2244, iv s1, rv r_2253, rv r_2260, iv s2, rv b2272, iv (1 : Int32), iv (0 : Int32)] [(.int (0 : Int32)), (.int (0 : Int32))])) t → Steps p.tables e below (s₁.setTop (entryFrame m #[(.int p0), (.int p1), (.int p2), (.int p3)] maxLocals)) t := fun t kt => pre2811 _ (st2812 _ kt)
          have pre2814 : ∀ t, Steps p.tables e below (T2812.setTop (mkF m 299 #[iv p0, iv p1, iv p2, iv p3, iv (3 : Int32), iv ln, rv r_2229, rv r_2232, iv s0, rv r_2239, rv r_2244, iv s1, rv r_2253, rv r_2260, iv s2, rv b2272, iv (1 : Int32), iv (0 : Int32)] [(.ref b2272)])) t → Steps p.tables e below (s₁.setTop (entryFrame m #[(.int p0), (.int p1), (.int p2), (.int p3)] maxLocals)) t := fun t kt => by
            refine pre2813 _ ?_
            show Steps p.tables e below (T2812.setTop (mkF m 282 #[iv p0, iv p1, iv p2, iv p3, iv (3 : Int32), iv ln, rv r_2229, rv r_2232, iv s0, rv r_2239, rv r_2244, iv s1, rv r_2253, rv r_2260, iv s2, rv b2272, iv (1 : Int32), iv (0 : Int32)] [(.int (0 : Int32)), (.int (0 : Int32))])) _
            refine XS.icmpNo X2812.here hx rfl (hb hby at_282) rfl (XT.ii_ne_f (by decide)) ?_
            refine XS.iconst X2812.here hx rfl (hb hby at_285) ?_
            refine XS.goto X2812.here hx rfl (pc0 := 286) (pc' := 290) rfl (hb hby at_286) (by decide) (by decide) ?_
            refine XS.istore X2812.here hx rfl (hb hby at_290) rfl (l' := #[iv p0, iv p1, iv p2, iv p3, iv (3 : Int32), iv ln, rv r_2229, rv r_2232, iv s0, rv r_2239, rv r_2244, iv s1, rv r_2253, rv r_2260, iv s2, rv b2272, iv (1 : Int32), iv (0 : Int32)]) rfl ?_
            refine XS.iload X2812.here hx rfl (hb hby at_292) rfl ?_
            refine XS.ifNo X2812.here hx rfl (hb hby at_294) rfl (XT.i0_eq_f (by decide)) ?_
            refine XS.aload X2812.here hx rfl (hb hby at_297) rfl rfl ?_
            exact kt
          obtain ⟨cq2815, kq2815, q2815a, q2815b, q2815c⟩ := isOf hZ e2812 J2789_0
          obtain ⟨_, _, ⟨T2815, L2815, k2815, n2815⟩, -, X2815, ⟨Lc2815, hQ2815, l2815, y2815, z2815⟩, st2815⟩ := X2812.virtualBack hx (y := (⟨"com/example/homethread/homethread/cli/ScenarioReport", "exitStatus", "()I"⟩ : MethodName)) (z := (⟨"com/example/homethread/homethread/cli/ScenarioReport", "exitStatus", "()I"⟩ : MethodName)) hown (mvT hZ (W 82 rfl)) (mvT hZ (W 83 rfl)) (notFace_of_selects (args := #[]) (mvT hZ (W 85 rfl))) (mvT hZ (W 85 rfl)) (mvT hZ (W 84 rfl)) (by decide) (backOf (W := 0) (rm_exitStatus17_0 l Z a0 hw [] b2272 h2789 n0 O2789 F2807) hZ (W 86 rfl) (W 51 rfl) (by decide) (by decide)) q2815a q2815c (g := (mkF m 299 #[iv p0, iv p1, iv p2, iv p3, iv (3 : Int32), iv ln, rv r_2229, rv r_2232, iv s0, rv r_2239, rv r_2244, iv s1, rv r_2253, rv r_2260, iv s2, rv b2272, iv (1 : Int32), iv (0 : Int32)] [(.ref b2272)])) rfl (by rw [hml]; rfl) (Steps.refl _) (argsL := []) (rest := []) (lenOf pd_50 rfl) rfl (by show 2 * 0 + _ ≤ _; exact Nat.le_of_eq rfl) (hb hby at_299) (fun _ _ => ⟨rfl, e2812, (by decide : 21 + 0 ≤ _), (by decide : 63 + 0 ≤ _)⟩)
          dsimp only [Pt.U, Pt.locs, Pt.cells, Pt.slots] at X2815 l2815 y2815 z2815 st2815 hQ2815
          subst l2815 y2815 z2815
          obtain ⟨rfl, M2815, e2815⟩ := hQ2815
          have N2815 := Fr.app N2812 M2815
          have pre2816 : ∀ t, Steps p.tables e below (T2815.setTop (mkF m 302 #[iv p0, iv p1, iv p2, iv p3, iv (3 : Int32), iv ln, rv r_2229, rv r_2232, iv s0, rv r_2239, rv r_2244, iv s1, rv r_2253, rv r_2260, iv s2, rv b2272, iv (1 : Int32), iv (0 : Int32)] [(.int (0 : Int32))])) t → Steps p.tables e below (s₁.setTop (entryFrame m #[(.int p0), (.int p1), (.int p2), (.int p3)] maxLocals)) t := fun t kt => pre2814 _ (st2815.trans kt)
          have pre2817 : ∀ t, Steps p.tables e below (T2815.setTop (mkF m 304 #[iv p0, iv p1, iv p2, iv p3, iv (3 : Int32), iv ln, rv r_2229, rv r_2232, iv s0, rv r_2239, rv r_2244, iv s1, rv r_2253, rv r_2260, iv s2, rv b2272, iv (1 : Int32), iv (0 : Int32)] [(.int (0 : Int32)), (.int (0 : Int32))])) t → Steps p.tables e below (s₁.setTop (entryFrame m #[(.int p0), (.int p1), (.int p2), (.int p3)] maxLocals)) t := fun t kt => by
            refine pre2816 _ ?_
            show Steps p.tables e below (T2815.setTop (mkF m 302 #[iv p0, iv p1, iv p2, iv p3, iv (3 : Int32), iv ln, rv r_2229, rv r_2232, iv s0, rv r_2239, rv r_2244, iv s1, rv r_2253, rv r_2260, iv s2, rv b2272, iv (1 : Int32), iv (0 : Int32)] [(.int (0 : Int32))])) _
            refine XS.iload X2815.here hx rfl (hb hby at_302) rfl ?_
            exact kt
          obtain ⟨_, _, ⟨T2818, L2818, k2818, n2818⟩, -, X2818, ⟨Lc2818, hQ2818, l2818, y2818, z2818⟩, st2818⟩ := Jvm.LawKit.callS X2815 hx (y := (⟨"com/example/homethread/homethread/cli/ScenarioReportExitStatusPinLaw", "want", "(Z)I"⟩ : MethodName)) hown (mvT hZ (W 139 rfl)) (mvT hZ (W 140 rfl)) (mvT hZ (W 2 rfl)) (mvT hZ (W 141 rfl)) (by decide) (backOf (W := 1) (rm_want26_0 l Z a0 hw [] h2789 n0 O2789) hZ (W 141 rfl) (W 2 rfl) (by decide) (by decide)) (g := (mkF m 304 #[iv p0, iv p1, iv p2, iv p3, iv (3 : Int32), iv ln, rv r_2229, rv r_2232, iv s0, rv r_2239, rv r_2244, iv s1, rv r_2253, rv r_2260, iv s2, rv b2272, iv (1 : Int32), iv (0 : Int32)] [(.int (0 : Int32)), (.int (0 : Int32))])) rfl (by rw [hml]; rfl) (argsL := [(.int (0 : Int32))]) (rest := [(.int (0 : Int32))]) (lenOf pd_52 rfl) rfl (by show 2 * 0 + _ ≤ _; exact Nat.le_of_eq rfl) (hb hby at_304) (fun _ _ => ⟨rfl, e2815, (by decide : 21 + 0 ≤ _), (by decide : 63 + 0 ≤ _)⟩)
          dsimp only [Pt.U, Pt.locs, Pt.cells, Pt.slots] at X2818 l2818 y2818 z2818 st2818 hQ2818
          subst l2818 y2818 z2818
          obtain ⟨rfl, M2818, e2818⟩ := hQ2818
          have N2818 := Fr.app N2815 M2818
          have pre2819 : ∀ t, Steps p.tables e below (T2818.setTop (mkF m 307 #[iv p0, iv p1, iv p2, iv p3, iv (3 : Int32), iv ln, rv r_2229, rv r_2232, iv s0, rv r_2239, rv r_2244, iv s1, rv r_2253, rv r_2260, iv s2, rv b2272, iv (1 : Int32), iv (0 : Int32)] [(.int (0 : Int32)), (.int (0 : Int32))])) t → Steps p.tables e below (s₁.setTop (entryFrame m #[(.int p0), (.int p1), (.int p2), (.int p3)] maxLocals)) t := fun t kt => pre2817 _ (st2818 _ kt)
          have pre2820 : ∀ t, Steps p.tables e below (T2818.setTop (mkF m 319 #[iv p0, iv p1, iv p2, iv p3, iv (3 : Int32), iv ln, rv r_2229, rv r_2232, iv s0, rv r_2239, rv r_2244, iv s1, rv r_2253, rv r_2260, iv s2, rv b2272, iv (1 : Int32), iv (0 : Int32)] [(.int (1 : Int32))])) t → Steps p.tables e below (s₁.setTop (entryFrame m #[(.int p0), (.int p1), (.int p2), (.int p3)] maxLocals)) t := fun t kt => by
            refine pre2819 _ ?_
            show Steps p.tables e below (T2818.setTop (mkF m 307 #[iv p0, iv p1, iv p2, iv p3, iv (3 : Int32), iv ln, rv r_2229, rv r_2232, iv s0, rv r_2239, rv r_2244, iv s1, rv r_2253, rv r_2260, iv s2, rv b2272, iv (1 : Int32), iv (0 : Int32)] [(.int (0 : Int32)), (.int (0 : Int32))])) _
            refine XS.icmpNo X2818.here hx rfl (hb hby at_307) rfl (XT.ii_ne_f (by decide)) ?_
            refine XS.iconst X2818.here hx rfl (hb hby at_310) ?_
            refine XS.goto X2818.here hx rfl (pc0 := 311) (pc' := 315) rfl (hb hby at_311) (by decide) (by decide) ?_
            refine XS.istore X2818.here hx rfl (hb hby at_315) rfl (l' := #[iv p0, iv p1, iv p2, iv p3, iv (3 : Int32), iv ln, rv r_2229, rv r_2232, iv s0, rv r_2239, rv r_2244, iv s1, rv r_2253, rv r_2260, iv s2, rv b2272, iv (1 : Int32), iv (0 : Int32)]) rfl ?_
            refine XS.iload X2818.here hx rfl (hb hby at_317) rfl ?_
            exact kt
          obtain ⟨fs, hr, hrun, hended, hW, hsame⟩ := X2818.leave (v := some (.int (1 : Int32))) (fun h => by rw [Bd.returns] at h; cases h)
          refine ⟨_, _, pre2820 _ (retN X2818 hx (t := .boolean) Bd.returns (by simp) (hb hby at_319) hr), hrun, hended, _, _, rfl, ?_, ⟨_, rfl⟩, hW, hsame.mono (by decide) (by decide)⟩
          show Q_law Z p0 p1 p2 p3 cz ad kd h0 n0 _ T2818.heap _
          rw [e2818]
          exact ⟨rfl, N2818⟩
set_option maxRecDepth 65536 in
set_option maxHeartbeats 40000000 in
theorem comes_1 {Post : Tables → Env → Array Value → State → Outcome → State → Prop} (hpost : ∀ tb e args s v u, (limb_1_1.after args s (.returned v) u = true ∧ limb_1_2.after args s (.returned v) u = true ∧ True) → FrameEnd s (.returned v) u (Jvm.fieldLocs frame_1_writes args s ++ Jvm.arrayLocs frame_1_arrays args s ++ Jvm.staticLocs frame_1_statics s) 56 192 → Post tb e args s (.returned v) u) :
    ArmFor flags0 classFile x code maxLocals ret World_1 tables_1 room_1 Calls_1 rest_1 Pre_1 Post := by
  intro l hfl _ _ p e ha hc hk s m args below hf hA hF happ hP
  obtain ⟨hcalls, hrest, hpre⟩ := hP
  obtain ⟨-, -, -, hnamed, -, -, -, hat⟩ := (Spec.applies_iff hf).mp happ
  obtain ⟨hg, hn⟩ := and_e (Cond.before_iff.mp (show (Jvm.Cond.and given_1 narrow_1).before args s = true from hpre))
  obtain ⟨given_1_2, given_1_3⟩ := and_e hg
  obtain ⟨given_1_4, given_1_5⟩ := and_e given_1_3
  obtain ⟨given_1_6, given_1_7⟩ := and_e given_1_5
  obtain ⟨given_1_8, given_1_9⟩ := and_e given_1_7
  obtain ⟨w0, w1, w2, w3, rfl⟩ : ∃ w0 w1 w2 w3 : Value, args = #[w0, w1, w2, w3] := by
    have hs : args.size = 4 := by simpa [Cond.value, given_1] using given_1_2
    obtain ⟨L⟩ := args
    match L, hs with
    | [w0, w1, w2, w3], _ => exact ⟨w0, w1, w2, w3, rfl⟩
  have hw := fun d (hd : d ∈ tables_1) => atoms_spec (ws := Jvm.Cond.code x code maxLocals ret :: tables_1) hat d (List.mem_cons_of_mem _ hd)
  have W := fun {d : Jvm.Cond} (i : Nat) (q : tables_1[i]? = some d) => hw d (List.mem_of_getElem? q)
  have hfit : Fit s := fun {y c} hc i hi => by
    obtain ⟨ha, rfl⟩ := Array.getElem?_eq_some_iff.mp hc
    have q := List.all_eq_true.mp ((Array.all_eq_true_iff_forall_mem.mp hF) _ (Array.getElem_mem ha)) i (List.mem_range.mpr hi)
    simpa [Array.getElem?_eq_getElem hi] using q
  obtain ⟨hsets, hown0⟩ := atoms_of _ (rest_1_c_eq ▸ (show rest_1_c.before _ s = true from hrest))
  have hr0 := Cond.before_iff.mp hown0
  obtain ⟨i0, ei0⟩ := is_v given_1_4
  obtain rfl : w0 = (.int i0) := Option.some.inj ei0
  obtain ⟨i1, ei1⟩ := is_v given_1_6
  obtain rfl : w1 = (.int i1) := Option.some.inj ei1
  obtain ⟨i2, ei2⟩ := is_v given_1_8
  obtain rfl : w2 = (.int i2) := Option.some.inj ei2
  obtain ⟨i3, ei3⟩ := is_v given_1_9
  obtain rfl : w3 = (.int i3) := Option.some.inj ei3
  obtain ⟨cz, ev_cz⟩ := is_v (Cond.before_iff.mp (hsets _ (List.mem_of_getElem? (i := 1) rfl)))
  have S_cz : Sta s s.heap "java/lang/String" "COMPACT_STRINGS" "Z" (.int cz) := Sta.start ev_cz (Or.inl (hsets _ (List.mem_of_getElem? (i := 0) rfl)))
  have n_cz : ¬ cz = (0 : Int32) := fun z => by
    have q1 := not_v (Cond.before_iff.mp (hsets _ (List.mem_of_getElem? (i := 2) rfl)))
    subst z
    have q2 := eq_i (b := Term.int (0 : Int32)) ev_cz (Term.int_eval (0 : Int32)) rfl
    rw [q2] at q1
    cases q1
  obtain ⟨ad, ev_ad⟩ := arr_v (Cond.before_iff.mp (hsets _ (List.mem_of_getElem? (i := 15) rfl)))
  have S_ad : Sta s s.heap "java/util/ArrayList" "DEFAULTCAPACITY_EMPTY_ELEMENTDATA" "[Ljava/lang/Object;" (.ref ad) := Sta.start ev_ad (Or.inr ⟨(W 58 rfl), (hsets _ (List.mem_of_getElem? (i := 11) rfl))⟩)
  have E_ad : Exa s s.heap ad "[Ljava/lang/Object;" := Exa.start ev_ad (Cond.before_iff.mp (hsets _ (List.mem_of_getElem? (i := 16) rfl)))
  obtain ⟨kd, V_ad⟩ := own_arv0 (dv := .null) hfit ev_ad (Cond.before_iff.mp (hsets _ (List.mem_of_getElem? (i := 15) rfl))) (Cond.before_iff.mp (hsets _ (List.mem_of_getElem? (i := 17) rfl)))
  obtain ⟨n, o, h1, h2, h3, _, L, rfl, ⟨rfl, N⟩, hq⟩ := rm_law l s _ hw tables_1 i0 i1 i2 i3 cz ad kd s.heap s.heap.size (Old.start s) S_cz S_ad V_ad E_ad n_cz p e ha hc hk s m _ below hf ((Spec.applies_iff_loose hf).mp happ).1 ⟨rfl, State.Warmed39.refl s, rfl⟩ trivial
  refine ⟨n, _, h1, h2, h3, hpost _ _ _ _ _ _ ⟨Cond.after_iff.mpr rfl, Cond.after_iff.mpr (eq_i res_at (Term.int_eval (1)) rfl), trivial⟩ ⟨hq.1, hq.2.1, (hq.2.2.sift fun y hy => Or.inr (N y hy)).mono (by decide) (by decide)⟩⟩
theorem main_1_1 : Claimed_1_1 := comes_1 fun _ _ _ _ _ _ h hF => ⟨h.1, hF⟩
theorem main_1_2 : Claimed_1_2 := comes_1 fun _ _ _ _ _ _ h hF => ⟨h.2.1, hF⟩
end Jvm.Pilot.@@N@@
namespace Jvm.Pilot.@@N@@
open Jvm Jvm.ClassFile Sem Op Lib Jvm.Free Jvm.Stand Jvm.Pilot.@@N@@.Jvm.D
/-! MADE BY PROGRAM (witnessworld.py) out of the Statement's table words and the real class files: 30 classes; the members and pool entries that the words name. The judged class is class 1, her method 8. -/
namespace start1
open Jvm.ClassFile
def u (s : String) : CpInfo := .utf8 (stringToUtf16 s)
/-- a pool by its gaps: so many unusable entries, then the entry; so many at the end -/
def gap : Nat → List CpInfo → List CpInfo
  | 0, r => r
  | n + 1, r => .unusable :: gap n r
def poolList (es : List (Nat × CpInfo)) (last : Nat) : List CpInfo := es.foldr (fun e r => gap e.1 (e.2 :: r)) (gap last [])
def pool (es : List (Nat × CpInfo)) (last : Nat) : Array CpInfo := ⟨poolList es last⟩
def fileOf (pool : Array CpInfo) (this : Nat) (attrs : Array Attribute := #[]) (ms : Array MethodInfo := #[]) (fl : Nat := 33) (sup : Nat := 0) (ifs : Array Nat := #[]) (fds : Array FieldInfo := #[]) : ClassFile where
  minorVersion := 0
  majorVersion := 65
  constantPool := pool
  accessFlags := fl
  thisClass := this
  superClass := sup
  interfaces := ifs
  fields := fds
  methods := ms
  attributes := attrs
def plain (name : String) (sup : Option ClassId) : Class where
  name := name
  kind := .ordinary
  loader := none
  accessFlags := 33
  super := sup
  interfaces := #[]
  cf := none
  fields := #[]
  methods := #[]
  instanceTypes := #[]
  staticTypes := #[]
  resolved := #[]
  callSites := []
  init := .initialized
  statics := none
  mirror := none

def pool0 : Array CpInfo := pool [(5, u "<init>"), (0, u "()V"), (1, .class_ 10), (1, u "java/lang/Object")] 113

def k0c0 : Code := { maxStack := 0, maxLocals := 1, code := object_method_1_code, exceptionTable := #[], attributes := #[] }
def k0m0 : Method := { name := "<init>", desc := "()V", sig := { parameters := [], returnType := none }, accessFlags := 1, code := some k0c0 }
/-- java/lang/Object -/
def k0 : Class := { plain "java/lang/Object" none with
  accessFlags := 33
  interfaces := #[]
  cf := some (fileOf pool0 8 #[] #[{ accessFlags := 1, nameIndex := 5, descriptorIndex := 6, attributes := #[] }] 33 0 #[] #[])
  fields := #[]
  methods := #[k0m0]
  instanceTypes := #[]
  staticTypes := #[]
  resolved := Array.replicate 124 none
  statics := none }

def pool1 : Array CpInfo := pool [(2, .class_ 4), (0, .nameAndType 5 6), (0, u "java/lang/Object"), (0, u "<init>"), (0, u "()V"), (0, .class_ 8), (0, u "java/lang/String"), (0, .methodref 7 10), (0, .nameAndType 5 11), (0, u "([C)V"), (0, .methodref 13 14), (0, .class_ 15), (0, .nameAndType 16 17), (0, u "com/example/homethread/homethread/cli/ScenarioReportExitStatusPinLaw"), (0, u "str"), (0, u "(IIZ)Ljava/lang/String;"), (0, .methodref 13 19), (0, .nameAndType 20 21), (0, u "x0"), (0, u "(I)I"), (0, .methodref 13 23), (0, .nameAndType 24 21), (0, u "x1"), (2, .methodref 13 28), (0, .nameAndType 29 30), (0, u "exp"), (0, u "(II)Ljava/lang/String;"), (0, .methodref 13 32), (0, .nameAndType 33 30), (0, u "obs"), (0, .methodref 13 35), (0, .nameAndType 36 37), (0, u "same"), (0, u "(II)Z"), (0, .class_ 39), (0, u "com/example/homethread/homethread/cli/ScenarioReport"), (0, .methodref 38 3), (0, .methodref 38 42), (0, .nameAndType 43 44), (0, u "exitStatus"), (0, u "()I"), (0, .methodref 38 46), (0, .nameAndType 47 48), (0, u "expectLine"), (0, u "(Ljava/lang/String;Ljava/lang/String;)V"), (0, .methodref 13 50), (0, .nameAndType 51 52), (0, u "want"), (0, u "(Z)I"), (3, u "law"), (0, u "(IIII)Z")] 2

def k1m0 : Method := { name := "<init>", desc := "()V", sig := { parameters := [], returnType := none }, accessFlags := 2, code := none }
def k1c1 : Code := { maxStack := 6, maxLocals := 3, code := method_2_code, exceptionTable := #[], attributes := #[] }
def k1m1 : Method := { name := "str", desc := "(IIZ)Ljava/lang/String;", sig := { parameters := [.int, .int, .boolean], returnType := some (.object "java/lang/String") }, accessFlags := 10, code := some k1c1 }
def k1c2 : Code := { maxStack := 2, maxLocals := 1, code := method_3_code, exceptionTable := #[], attributes := #[] }
def k1m2 : Method := { name := "x0", desc := "(I)I", sig := { parameters := [.int], returnType := some .int }, accessFlags := 10, code := some k1c2 }
def k1c3 : Code := { maxStack := 2, maxLocals := 1, code := method_4_code, exceptionTable := #[], attributes := #[] }
def k1m3 : Method := { name := "x1", desc := "(I)I", sig := { parameters := [.int], returnType := some .int }, accessFlags := 10, code := some k1c3 }
def k1c4 : Code := { maxStack := 4, maxLocals := 2, code := method_5_code, exceptionTable := #[], attributes := #[] }
def k1m4 : Method := { name := "exp", desc := "(II)Ljava/lang/String;", sig := { parameters := [.int, .int], returnType := some (.object "java/lang/String") }, accessFlags := 10, code := some k1c4 }
def k1c5 : Code := { maxStack := 4, maxLocals := 2, code := method_6_code, exceptionTable := #[], attributes := #[] }
def k1m5 : Method := { name := "obs", desc := "(II)Ljava/lang/String;", sig := { parameters := [.int, .int], returnType := some (.object "java/lang/String") }, accessFlags := 10, code := some k1c5 }
def k1c6 : Code := { maxStack := 2, maxLocals := 4, code := method_7_code, exceptionTable := #[], attributes := #[] }
def k1m6 : Method := { name := "same", desc := "(II)Z", sig := { parameters := [.int, .int], returnType := some .boolean }, accessFlags := 10, code := some k1c6 }
def k1c7 : Code := { maxStack := 1, maxLocals := 1, code := method_8_code, exceptionTable := #[], attributes := #[] }
def k1m7 : Method := { name := "want", desc := "(Z)I", sig := { parameters := [.boolean], returnType := some .int }, accessFlags := 10, code := some k1c7 }
def k1c8 : Code := { maxStack := 3, maxLocals := 18, code := code, exceptionTable := #[], attributes := #[] }
def k1m8 : Method := { name := "law", desc := "(IIII)Z", sig := { parameters := [.int, .int, .int, .int], returnType := some .boolean }, accessFlags := 9, code := some k1c8 }
/-- com/example/homethread/homethread/cli/ScenarioReportExitStatusPinLaw -/
def k1 : Class := { plain "com/example/homethread/homethread/cli/ScenarioReportExitStatusPinLaw" (some 0) with
  accessFlags := 49
  interfaces := #[]
  cf := some (fileOf pool1 13 #[] #[{ accessFlags := 2, nameIndex := 5, descriptorIndex := 6, attributes := #[] }, { accessFlags := 10, nameIndex := 16, descriptorIndex := 17, attributes := #[] }, { accessFlags := 10, nameIndex := 20, descriptorIndex := 21, attributes := #[] }, { accessFlags := 10, nameIndex := 24, descriptorIndex := 21, attributes := #[] }, { accessFlags := 10, nameIndex := 29, descriptorIndex := 30, attributes := #[] }, { accessFlags := 10, nameIndex := 33, descriptorIndex := 30, attributes := #[] }, { accessFlags := 10, nameIndex := 36, descriptorIndex := 37, attributes := #[] }, { accessFlags := 10, nameIndex := 51, descriptorIndex := 52, attributes := #[] }, { accessFlags := 9, nameIndex := 56, descriptorIndex := 57, attributes := #[] }] 49 2 #[] #[])
  fields := #[]
  methods := #[k1m0, k1m1, k1m2, k1m3, k1m4, k1m5, k1m6, k1m7, k1m8]
  instanceTypes := #[]
  staticTypes := #[]
  resolved := Array.replicate 60 none
  statics := none }

def pool2 : Array CpInfo := pool [(1, .class_ 2), (0, u "java/io/Serializable"), (0, .class_ 4), (0, u "java/lang/Object")] 2

/-- java/io/Serializable -/
def k2 : Class := { plain "java/io/Serializable" (some 0) with
  accessFlags := 1537
  interfaces := #[]
  cf := some (fileOf pool2 1 #[] #[] 1537 3 #[] #[])
  fields := #[]
  methods := #[]
  instanceTypes := #[]
  staticTypes := #[]
  resolved := Array.replicate 7 none
  statics := none }

def pool3 : Array CpInfo := pool [(1, .class_ 2), (0, u "java/lang/Comparable"), (0, .class_ 4), (0, u "java/lang/Object")] 7

/-- java/lang/Comparable -/
def k3 : Class := { plain "java/lang/Comparable" (some 0) with
  accessFlags := 1537
  interfaces := #[]
  cf := some (fileOf pool3 1 #[] #[] 1537 3 #[] #[])
  fields := #[]
  methods := #[]
  instanceTypes := #[]
  staticTypes := #[]
  resolved := Array.replicate 12 none
  statics := none }

def pool4 : Array CpInfo := pool [(2, .class_ 4), (1, u "java/lang/CharSequence"), (42, .class_ 48), (0, u "java/lang/CharSequence$1CodePointIterator"), (10, .class_ 60), (0, u "java/lang/CharSequence$1CharIterator"), (5, .class_ 67), (0, u "java/lang/Object")] 63

/-- java/lang/CharSequence -/
def k4 : Class := { plain "java/lang/CharSequence" (some 0) with
  accessFlags := 1537
  interfaces := #[]
  cf := some (fileOf pool4 2 #[.nestMembers #[47, 59]] #[] 1537 66 #[] #[])
  fields := #[]
  methods := #[]
  instanceTypes := #[]
  staticTypes := #[]
  resolved := Array.replicate 131 none
  statics := none }

def pool5 : Array CpInfo := pool [(1, .class_ 2), (0, u "java/lang/constant/Constable"), (0, .class_ 4), (0, u "java/lang/Object")] 6

/-- java/lang/constant/Constable -/
def k5 : Class := { plain "java/lang/constant/Constable" (some 0) with
  accessFlags := 1537
  interfaces := #[]
  cf := some (fileOf pool5 1 #[] #[] 1537 3 #[] #[])
  fields := #[]
  methods := #[]
  instanceTypes := #[]
  staticTypes := #[]
  resolved := Array.replicate 11 none
  statics := none }

def pool6 : Array CpInfo := pool [(1, .class_ 2), (0, u "java/lang/constant/ConstantDesc"), (0, .class_ 4), (0, u "java/lang/Object")] 32

/-- java/lang/constant/ConstantDesc -/
def k6 : Class := { plain "java/lang/constant/ConstantDesc" (some 0) with
  accessFlags := 1537
  interfaces := #[]
  cf := some (fileOf pool6 1 #[] #[] 1537 3 #[] #[])
  fields := #[]
  methods := #[]
  instanceTypes := #[]
  staticTypes := #[]
  resolved := Array.replicate 37 none
  statics := none }

def pool7 : Array CpInfo := pool [(1, .methodref 2 3), (0, .class_ 4), (0, .nameAndType 5 6), (0, u "java/lang/Object"), (0, u "<init>"), (0, u "()V"), (2, .fieldref 10 11), (0, .class_ 12), (0, .nameAndType 13 14), (0, u "java/lang/String"), (0, u "value"), (0, u "[B"), (0, .fieldref 10 16), (0, .nameAndType 17 18), (0, u "coder"), (0, u "B"), (2, u "hash"), (0, u "I"), (2, u "hashIsZero"), (0, u "Z"), (0, .methodref 10 28), (0, .nameAndType 5 29), (0, u "([CIILjava/lang/Void;)V"), (8, .fieldref 10 39), (0, .nameAndType 40 26), (0, u "COMPACT_STRINGS"), (1, .class_ 44), (1, u "java/lang/StringUTF16"), (0, u "compress"), (1, .methodref 42 48), (0, .nameAndType 49 50), (0, u "coderFromArrayLen"), (0, u "([BI)B"), (56, .class_ 109), (1, u "java/lang/StringLatin1"), (67, .methodref 42 178), (0, .nameAndType 45 179), (0, u "([CII)[B"), (361, .methodref 107 542), (0, .nameAndType 543 544), (0, u "equals"), (0, u "([B[B)Z"), (28, u "(Ljava/lang/Object;)Z"), (1, .class_ 576), (0, u "java/lang/CharSequence"), (22, u "CASE_INSENSITIVE_ORDER"), (0, u "Ljava/util/Comparator;"), (409, u "([C)V"), (90, u "serialPersistentFields"), (0, u "[Ljava/io/ObjectStreamField;"), (0, .class_ 1104), (0, u "java/lang/String$CaseInsensitiveComparator"), (1, .class_ 1107), (0, u "java/io/Serializable"), (0, .class_ 1109), (0, u "java/lang/Comparable"), (0, .class_ 1111), (0, u "java/lang/constant/Constable"), (0, .class_ 1113), (0, u "java/lang/constant/ConstantDesc"), (2, u "serialVersionUID"), (0, u "J"), (3, u "REPL"), (0, u "C"), (2, u "LATIN1"), (1, u "UTF16")] 323

def k7m0 : Method := { name := "<init>", desc := "()V", sig := { parameters := [], returnType := none }, accessFlags := 1, code := none }
def k7c1 : Code := { maxStack := 5, maxLocals := 2, code := jdk_42_method_3_code, exceptionTable := #[], attributes := #[] }
def k7m1 : Method := { name := "<init>", desc := "([C)V", sig := { parameters := [(.array .char)], returnType := none }, accessFlags := 1, code := some k7c1 }
def k7c2 : Code := { maxStack := 2, maxLocals := 3, code := jdk_42_method_66_code, exceptionTable := #[], attributes := #[] }
def k7m2 : Method := { name := "equals", desc := "(Ljava/lang/Object;)Z", sig := { parameters := [(.object "java/lang/Object")], returnType := some .boolean }, accessFlags := 1, code := some k7c2 }
def k7c3 : Code := { maxStack := 4, maxLocals := 6, code := jdk_42_method_149_code, exceptionTable := #[], attributes := #[] }
def k7m3 : Method := { name := "<init>", desc := "([CIILjava/lang/Void;)V", sig := { parameters := [(.array .char), .int, .int, (.object "java/lang/Void")], returnType := none }, accessFlags := 2, code := some k7c3 }
/-- java/lang/String -/
def k7 : Class := { plain "java/lang/String" (some 0) with
  accessFlags := 49
  interfaces := #[2, 3, 4, 5, 6]
  cf := some (fileOf pool7 10 #[.nestMembers #[1103]] #[{ accessFlags := 1, nameIndex := 5, descriptorIndex := 6, attributes := #[] }, { accessFlags := 1, nameIndex := 5, descriptorIndex := 1010, attributes := #[] }, { accessFlags := 1, nameIndex := 543, descriptorIndex := 573, attributes := #[] }, { accessFlags := 2, nameIndex := 5, descriptorIndex := 29, attributes := #[] }] 49 2 #[1106, 1108, 575, 1110, 1112] #[{ accessFlags := 18, nameIndex := 13, descriptorIndex := 14, attributes := #[] }, { accessFlags := 18, nameIndex := 17, descriptorIndex := 18, attributes := #[] }, { accessFlags := 2, nameIndex := 21, descriptorIndex := 22, attributes := #[] }, { accessFlags := 2, nameIndex := 25, descriptorIndex := 26, attributes := #[] }, { accessFlags := 26, nameIndex := 1116, descriptorIndex := 1117, attributes := #[] }, { accessFlags := 24, nameIndex := 40, descriptorIndex := 26, attributes := #[] }, { accessFlags := 26, nameIndex := 1101, descriptorIndex := 1102, attributes := #[] }, { accessFlags := 26, nameIndex := 1121, descriptorIndex := 1122, attributes := #[] }, { accessFlags := 25, nameIndex := 599, descriptorIndex := 600, attributes := #[] }, { accessFlags := 24, nameIndex := 1125, descriptorIndex := 18, attributes := #[] }, { accessFlags := 24, nameIndex := 1127, descriptorIndex := 18, attributes := #[] }])
  fields := #[{ name := "value", type := (.array .byte), accessFlags := 18, slot := 0, constantValue := 0 }, { name := "coder", type := .byte, accessFlags := 18, slot := 1, constantValue := 0 }, { name := "hash", type := .int, accessFlags := 2, slot := 2, constantValue := 0 }, { name := "hashIsZero", type := .boolean, accessFlags := 2, slot := 3, constantValue := 0 }, { name := "serialVersionUID", type := .long, accessFlags := 26, slot := 0, constantValue := 0 }, { name := "COMPACT_STRINGS", type := .boolean, accessFlags := 24, slot := 1, constantValue := 0 }, { name := "serialPersistentFields", type := (.array (.object "java/io/ObjectStreamField")), accessFlags := 26, slot := 2, constantValue := 0 }, { name := "REPL", type := .char, accessFlags := 26, slot := 3, constantValue := 0 }, { name := "CASE_INSENSITIVE_ORDER", type := (.object "java/util/Comparator"), accessFlags := 25, slot := 4, constantValue := 0 }, { name := "LATIN1", type := .byte, accessFlags := 24, slot := 5, constantValue := 0 }, { name := "UTF16", type := .byte, accessFlags := 24, slot := 6, constantValue := 0 }]
  methods := #[k7m0, k7m1, k7m2, k7m3]
  instanceTypes := #[(.array .byte), .byte, .int, .boolean]
  staticTypes := #[.long, .boolean, (.array (.object "java/io/ObjectStreamField")), .char, (.object "java/util/Comparator"), .byte, .byte]
  resolved := Array.replicate 1451 none
  statics := some 0 }

def pool8 : Array CpInfo := pool [(6, .class_ 8), (1, u "java/lang/Object"), (0, u "<init>"), (0, u "()V"), (1, .class_ 14), (1, u "java/lang/StringUTF16"), (31, u "$assertionsDisabled"), (0, u "Z"), (13, u "HI_BYTE_SHIFT"), (0, u "I"), (2, u "LO_BYTE_SHIFT"), (49, .methodref 12 116), (0, .nameAndType 117 118), (0, u "compress"), (0, u "([CI[BII)I"), (3, u "([CII)[B"), (138, u "coderFromArrayLen"), (0, u "([BI)B"), (106, .class_ 371), (1, u "java/lang/StringUTF16$LinesSpliterator"), (58, u "MAX_LENGTH"), (196, .class_ 628), (0, u "java/lang/StringUTF16$CodePointsSpliterator"), (0, .class_ 630), (0, u "java/lang/StringUTF16$CharsSpliterator")] 4

def k8m0 : Method := { name := "<init>", desc := "()V", sig := { parameters := [], returnType := none }, accessFlags := 0, code := none }
def k8c1 : Code := { maxStack := 2, maxLocals := 2, code := jdk_52_method_15_code, exceptionTable := #[], attributes := #[] }
def k8m1 : Method := { name := "coderFromArrayLen", desc := "([BI)B", sig := { parameters := [(.array .byte), .int], returnType := some .byte }, accessFlags := 8, code := some k8c1 }
def k8c2 : Code := { maxStack := 5, maxLocals := 6, code := jdk_52_method_16_code, exceptionTable := #[], attributes := #[] }
def k8m2 : Method := { name := "compress", desc := "([CII)[B", sig := { parameters := [(.array .char), .int, .int], returnType := some (.array .byte) }, accessFlags := 9, code := some k8c2 }
def k8c3 : Code := { maxStack := 3, maxLocals := 7, code := jdk_52_method_21_code, exceptionTable := #[], attributes := #[] }
def k8m3 : Method := { name := "compress", desc := "([CI[BII)I", sig := { parameters := [(.array .char), .int, (.array .byte), .int, .int], returnType := some .int }, accessFlags := 9, code := some k8c3 }
/-- java/lang/StringUTF16 -/
def k8 : Class := { plain "java/lang/StringUTF16" (some 0) with
  accessFlags := 48
  interfaces := #[]
  cf := some (fileOf pool8 12 #[.nestMembers #[627, 629, 369]] #[{ accessFlags := 0, nameIndex := 9, descriptorIndex := 10, attributes := #[] }, { accessFlags := 8, nameIndex := 261, descriptorIndex := 262, attributes := #[] }, { accessFlags := 9, nameIndex := 117, descriptorIndex := 122, attributes := #[] }, { accessFlags := 9, nameIndex := 117, descriptorIndex := 118, attributes := #[] }] 48 6 #[] #[{ accessFlags := 26, nameIndex := 61, descriptorIndex := 62, attributes := #[] }, { accessFlags := 26, nameIndex := 65, descriptorIndex := 62, attributes := #[] }, { accessFlags := 24, nameIndex := 430, descriptorIndex := 62, attributes := #[] }, { accessFlags := 4120, nameIndex := 46, descriptorIndex := 47, attributes := #[] }])
  fields := #[{ name := "HI_BYTE_SHIFT", type := .int, accessFlags := 26, slot := 0, constantValue := 0 }, { name := "LO_BYTE_SHIFT", type := .int, accessFlags := 26, slot := 1, constantValue := 0 }, { name := "MAX_LENGTH", type := .int, accessFlags := 24, slot := 2, constantValue := 0 }, { name := "$assertionsDisabled", type := .boolean, accessFlags := 4120, slot := 3, constantValue := 0 }]
  methods := #[k8m0, k8m1, k8m2, k8m3]
  instanceTypes := #[]
  staticTypes := #[.int, .int, .int, .boolean]
  resolved := Array.replicate 635 none
  statics := none }

def pool9 : Array CpInfo := pool [(1, .methodref 2 3), (0, .class_ 4), (0, .nameAndType 5 6), (0, u "java/lang/Object"), (0, u "<init>"), (0, u "()V"), (0, .class_ 8), (0, u "java/util/ArrayList"), (0, .methodref 7 3), (0, .fieldref 11 12), (0, .class_ 13), (0, .nameAndType 14 15), (0, u "com/example/homethread/homethread/cli/ScenarioReport"), (0, u "lines"), (0, u "Ljava/util/List;"), (1, .class_ 19), (1, u "java/lang/String"), (8, u "expectLine"), (0, u "(Ljava/lang/String;Ljava/lang/String;)V"), (0, .interfaceMethodref 31 32), (0, .class_ 33), (0, .nameAndType 34 35), (0, u "java/util/List"), (0, u "add"), (0, u "(Ljava/lang/Object;)Z"), (0, .methodref 17 37), (0, .nameAndType 38 35), (0, u "equals"), (0, .fieldref 11 40), (0, .nameAndType 41 42), (0, u "differs"), (0, u "Z"), (35, u "exitStatus"), (0, u "()I")] 19

def k9c0 : Code := { maxStack := 3, maxLocals := 1, code := prog_42_method_1_code, exceptionTable := #[], attributes := #[] }
def k9m0 : Method := { name := "<init>", desc := "()V", sig := { parameters := [], returnType := none }, accessFlags := 0, code := some k9c0 }
def k9c1 : Code := { maxStack := 2, maxLocals := 3, code := prog_42_method_3_code, exceptionTable := #[], attributes := #[] }
def k9m1 : Method := { name := "expectLine", desc := "(Ljava/lang/String;Ljava/lang/String;)V", sig := { parameters := [(.object "java/lang/String"), (.object "java/lang/String")], returnType := none }, accessFlags := 0, code := some k9c1 }
def k9c2 : Code := { maxStack := 1, maxLocals := 1, code := prog_42_method_5_code, exceptionTable := #[], attributes := #[] }
def k9m2 : Method := { name := "exitStatus", desc := "()I", sig := { parameters := [], returnType := some .int }, accessFlags := 0, code := some k9c2 }
/-- com/example/homethread/homethread/cli/ScenarioReport -/
def k9 : Class := { plain "com/example/homethread/homethread/cli/ScenarioReport" (some 0) with
  accessFlags := 48
  interfaces := #[]
  cf := some (fileOf pool9 11 #[] #[{ accessFlags := 0, nameIndex := 5, descriptorIndex := 6, attributes := #[] }, { accessFlags := 0, nameIndex := 28, descriptorIndex := 29, attributes := #[] }, { accessFlags := 0, nameIndex := 78, descriptorIndex := 79, attributes := #[] }] 48 2 #[] #[{ accessFlags := 18, nameIndex := 14, descriptorIndex := 15, attributes := #[] }, { accessFlags := 2, nameIndex := 41, descriptorIndex := 42, attributes := #[] }])
  fields := #[{ name := "lines", type := (.object "java/util/List"), accessFlags := 18, slot := 0, constantValue := 0 }, { name := "differs", type := .boolean, accessFlags := 2, slot := 1, constantValue := 0 }]
  methods := #[k9m0, k9m1, k9m2]
  instanceTypes := #[(.object "java/util/List"), .boolean]
  staticTypes := #[]
  resolved := Array.replicate 99 none
  statics := none }

def pool10 : Array CpInfo := pool [(8, .class_ 10), (1, u "java/lang/Iterable"), (24, .class_ 36), (0, u "java/lang/Object")] 25

/-- java/lang/Iterable -/
def k10 : Class := { plain "java/lang/Iterable" (some 0) with
  accessFlags := 1537
  interfaces := #[]
  cf := some (fileOf pool10 8 #[] #[] 1537 35 #[] #[])
  fields := #[]
  methods := #[]
  instanceTypes := #[]
  staticTypes := #[]
  resolved := Array.replicate 62 none
  statics := none }

def pool11 : Array CpInfo := pool [(10, .class_ 12), (1, u "java/util/Collection"), (47, .class_ 61), (0, u "java/lang/Object"), (0, .class_ 63), (0, u "java/lang/Iterable")] 51

/-- java/util/Collection -/
def k11 : Class := { plain "java/util/Collection" (some 0) with
  accessFlags := 1537
  interfaces := #[10]
  cf := some (fileOf pool11 10 #[] #[] 1537 60 #[62] #[])
  fields := #[]
  methods := #[]
  instanceTypes := #[]
  staticTypes := #[]
  resolved := Array.replicate 115 none
  statics := none }

def pool12 : Array CpInfo := pool [(1, .methodref 2 3), (0, .class_ 4), (0, .nameAndType 5 6), (0, u "java/lang/Object"), (0, u "<init>"), (0, u "()V"), (1, .class_ 10), (1, u "java/util/AbstractCollection"), (66, .class_ 78), (0, u "java/util/Collection")] 81

def k12c0 : Code := { maxStack := 1, maxLocals := 1, code := jdk_22_method_1_code, exceptionTable := #[], attributes := #[] }
def k12m0 : Method := { name := "<init>", desc := "()V", sig := { parameters := [], returnType := none }, accessFlags := 4, code := some k12c0 }
/-- java/util/AbstractCollection -/
def k12 : Class := { plain "java/util/AbstractCollection" (some 0) with
  accessFlags := 1057
  interfaces := #[11]
  cf := some (fileOf pool12 8 #[] #[{ accessFlags := 4, nameIndex := 5, descriptorIndex := 6, attributes := #[] }] 1057 2 #[77] #[])
  fields := #[]
  methods := #[k12m0]
  instanceTypes := #[]
  staticTypes := #[]
  resolved := Array.replicate 160 none
  statics := none }

def pool13 : Array CpInfo := pool [(8, .class_ 10), (1, u "java/util/SequencedCollection"), (15, .class_ 27), (0, u "java/lang/Object"), (0, .class_ 29), (0, u "java/util/Collection")] 27

/-- java/util/SequencedCollection -/
def k13 : Class := { plain "java/util/SequencedCollection" (some 0) with
  accessFlags := 1537
  interfaces := #[11]
  cf := some (fileOf pool13 8 #[] #[] 1537 26 #[28] #[])
  fields := #[]
  methods := #[]
  instanceTypes := #[]
  staticTypes := #[]
  resolved := Array.replicate 57 none
  statics := none }

def pool14 : Array CpInfo := pool [(8, .class_ 10), (1, u "java/util/List"), (49, u "add"), (3, u "(Ljava/lang/Object;)Z"), (38, .class_ 104), (0, u "java/lang/Object"), (15, .class_ 121), (0, u "java/util/SequencedCollection")] 129

def k14m0 : Method := { name := "add", desc := "(Ljava/lang/Object;)Z", sig := { parameters := [(.object "java/lang/Object")], returnType := some .boolean }, accessFlags := 1025, code := none }
/-- java/util/List -/
def k14 : Class := { plain "java/util/List" (some 0) with
  accessFlags := 1537
  interfaces := #[13]
  cf := some (fileOf pool14 8 #[] #[{ accessFlags := 1025, nameIndex := 60, descriptorIndex := 64, attributes := #[] }] 1537 103 #[120] #[])
  fields := #[]
  methods := #[k14m0]
  instanceTypes := #[]
  staticTypes := #[]
  resolved := Array.replicate 251 none
  statics := none }

def pool15 : Array CpInfo := pool [(1, .methodref 2 3), (0, .class_ 4), (0, .nameAndType 5 6), (0, u "java/util/AbstractCollection"), (0, u "<init>"), (0, u "()V"), (0, .fieldref 8 9), (0, .class_ 10), (0, .nameAndType 11 12), (0, u "java/util/AbstractList"), (0, u "modCount"), (0, u "I"), (64, .class_ 78), (0, u "java/util/AbstractList$Itr"), (3, .class_ 83), (0, u "java/util/AbstractList$ListItr"), (9, .class_ 94), (0, u "java/util/AbstractList$RandomAccessSubList"), (3, .class_ 99), (0, u "java/util/AbstractList$SubList"), (33, .class_ 134), (0, u "java/util/List"), (73, .class_ 209), (0, u "java/util/AbstractList$SubList$1"), (0, .class_ 211), (0, u "java/util/AbstractList$RandomAccessSpliterator")] 6

def k15c0 : Code := { maxStack := 2, maxLocals := 1, code := jdk_39_method_1_code, exceptionTable := #[], attributes := #[] }
def k15m0 : Method := { name := "<init>", desc := "()V", sig := { parameters := [], returnType := none }, accessFlags := 4, code := some k15c0 }
/-- java/util/AbstractList -/
def k15 : Class := { plain "java/util/AbstractList" (some 12) with
  accessFlags := 1057
  interfaces := #[14]
  cf := some (fileOf pool15 8 #[.nestMembers #[93, 98, 208, 210, 82, 77]] #[{ accessFlags := 4, nameIndex := 5, descriptorIndex := 6, attributes := #[] }] 1057 2 #[133] #[{ accessFlags := 132, nameIndex := 11, descriptorIndex := 12, attributes := #[] }])
  fields := #[{ name := "modCount", type := .int, accessFlags := 132, slot := 0, constantValue := 0 }]
  methods := #[k15m0]
  instanceTypes := #[.int]
  staticTypes := #[]
  resolved := Array.replicate 218 none
  statics := none }

def pool16 : Array CpInfo := pool [(1, .class_ 2), (0, u "java/util/RandomAccess"), (0, .class_ 4), (0, u "java/lang/Object")] 2

/-- java/util/RandomAccess -/
def k16 : Class := { plain "java/util/RandomAccess" (some 0) with
  accessFlags := 1537
  interfaces := #[]
  cf := some (fileOf pool16 1 #[] #[] 1537 3 #[] #[])
  fields := #[]
  methods := #[]
  instanceTypes := #[]
  staticTypes := #[]
  resolved := Array.replicate 7 none
  statics := none }

def pool17 : Array CpInfo := pool [(1, .class_ 2), (0, u "java/lang/Cloneable"), (0, .class_ 4), (0, u "java/lang/Object")] 2

/-- java/lang/Cloneable -/
def k17 : Class := { plain "java/lang/Cloneable" (some 0) with
  accessFlags := 1537
  interfaces := #[]
  cf := some (fileOf pool17 1 #[] #[] 1537 3 #[] #[])
  fields := #[]
  methods := #[]
  instanceTypes := #[]
  staticTypes := #[]
  resolved := Array.replicate 7 none
  statics := none }

def pool18 : Array CpInfo := pool [(1, .methodref 2 3), (0, .class_ 4), (0, .nameAndType 5 6), (0, u "java/util/AbstractList"), (0, u "<init>"), (0, u "()V"), (0, .class_ 8), (0, u "java/lang/Object"), (0, .fieldref 10 11), (0, .class_ 12), (0, .nameAndType 13 14), (0, u "java/util/ArrayList"), (0, u "elementData"), (0, u "[Ljava/lang/Object;"), (2, u "EMPTY_ELEMENTDATA"), (21, .fieldref 10 40), (0, .nameAndType 41 14), (0, u "DEFAULTCAPACITY_EMPTY_ELEMENTDATA"), (5, u "()[Ljava/lang/Object;"), (0, .fieldref 10 49), (0, .nameAndType 50 51), (0, u "size"), (0, u "I"), (11, .fieldref 10 64), (0, .nameAndType 65 51), (0, u "modCount"), (3, .methodref 10 70), (0, .nameAndType 71 72), (0, u "grow"), (0, u "(I)[Ljava/lang/Object;"), (6, .methodref 80 81), (0, .class_ 82), (0, .nameAndType 83 84), (0, u "java/lang/Math"), (0, u "max"), (0, u "(II)I"), (11, u "(Ljava/lang/Object;)Z"), (32, .methodref 10 130), (0, .nameAndType 71 47), (0, .methodref 10 132), (0, .nameAndType 133 134), (0, u "add"), (0, u "(Ljava/lang/Object;[Ljava/lang/Object;I)V"), (13, .class_ 149), (0, u "java/util/List"), (112, .class_ 263), (0, u "java/util/ArrayList$ListItr"), (3, .class_ 268), (0, u "java/util/ArrayList$Itr"), (7, .class_ 277), (0, u "java/util/ArrayList$SubList"), (12, .class_ 291), (0, u "java/util/ArrayList$ArrayListSpliterator"), (37, .class_ 330), (0, u "java/util/RandomAccess"), (0, .class_ 332), (0, u "java/lang/Cloneable"), (0, .class_ 334), (0, u "java/io/Serializable"), (0, u "serialVersionUID"), (0, u "J"), (3, u "DEFAULT_CAPACITY"), (159, .class_ 501), (0, u "java/util/ArrayList$SubList$2"), (0, .class_ 503), (0, u "java/util/ArrayList$SubList$1")] 5

def k18c0 : Code := { maxStack := 2, maxLocals := 1, code := jdk_38_method_2_code, exceptionTable := #[], attributes := #[] }
def k18m0 : Method := { name := "<init>", desc := "()V", sig := { parameters := [], returnType := none }, accessFlags := 1, code := some k18c0 }
def k18c1 : Code := { maxStack := 4, maxLocals := 4, code := jdk_38_method_6_code, exceptionTable := #[], attributes := #[] }
def k18m1 : Method := { name := "grow", desc := "(I)[Ljava/lang/Object;", sig := { parameters := [.int], returnType := some (.array (.object "java/lang/Object")) }, accessFlags := 2, code := some k18c1 }
def k18c2 : Code := { maxStack := 3, maxLocals := 1, code := jdk_38_method_7_code, exceptionTable := #[], attributes := #[] }
def k18m2 : Method := { name := "grow", desc := "()[Ljava/lang/Object;", sig := { parameters := [], returnType := some (.array (.object "java/lang/Object")) }, accessFlags := 2, code := some k18c2 }
def k18c3 : Code := { maxStack := 3, maxLocals := 4, code := jdk_38_method_24_code, exceptionTable := #[], attributes := #[] }
def k18m3 : Method := { name := "add", desc := "(Ljava/lang/Object;[Ljava/lang/Object;I)V", sig := { parameters := [(.object "java/lang/Object"), (.array (.object "java/lang/Object")), .int], returnType := none }, accessFlags := 2, code := some k18c3 }
def k18c4 : Code := { maxStack := 4, maxLocals := 2, code := jdk_38_method_25_code, exceptionTable := #[], attributes := #[] }
def k18m4 : Method := { name := "add", desc := "(Ljava/lang/Object;)Z", sig := { parameters := [(.object "java/lang/Object")], returnType := some .boolean }, accessFlags := 1, code := some k18c4 }
/-- java/util/ArrayList -/
def k18 : Class := { plain "java/util/ArrayList" (some 15) with
  accessFlags := 33
  interfaces := #[14, 16, 17, 2]
  cf := some (fileOf pool18 10 #[.nestMembers #[290, 276, 500, 502, 262, 267]] #[{ accessFlags := 1, nameIndex := 5, descriptorIndex := 6, attributes := #[] }, { accessFlags := 2, nameIndex := 71, descriptorIndex := 72, attributes := #[] }, { accessFlags := 2, nameIndex := 71, descriptorIndex := 47, attributes := #[] }, { accessFlags := 2, nameIndex := 133, descriptorIndex := 134, attributes := #[] }, { accessFlags := 1, nameIndex := 133, descriptorIndex := 96, attributes := #[] }] 33 2 #[148, 329, 331, 333] #[{ accessFlags := 26, nameIndex := 335, descriptorIndex := 336, attributes := #[] }, { accessFlags := 26, nameIndex := 340, descriptorIndex := 51, attributes := #[] }, { accessFlags := 26, nameIndex := 17, descriptorIndex := 14, attributes := #[] }, { accessFlags := 26, nameIndex := 41, descriptorIndex := 14, attributes := #[] }, { accessFlags := 128, nameIndex := 13, descriptorIndex := 14, attributes := #[] }, { accessFlags := 2, nameIndex := 50, descriptorIndex := 51, attributes := #[] }])
  fields := #[{ name := "serialVersionUID", type := .long, accessFlags := 26, slot := 0, constantValue := 0 }, { name := "DEFAULT_CAPACITY", type := .int, accessFlags := 26, slot := 1, constantValue := 0 }, { name := "EMPTY_ELEMENTDATA", type := (.array (.object "java/lang/Object")), accessFlags := 26, slot := 2, constantValue := 0 }, { name := "DEFAULTCAPACITY_EMPTY_ELEMENTDATA", type := (.array (.object "java/lang/Object")), accessFlags := 26, slot := 3, constantValue := 0 }, { name := "elementData", type := (.array (.object "java/lang/Object")), accessFlags := 128, slot := 1, constantValue := 0 }, { name := "size", type := .int, accessFlags := 2, slot := 2, constantValue := 0 }]
  methods := #[k18m0, k18m1, k18m2, k18m3, k18m4]
  instanceTypes := #[.int, (.array (.object "java/lang/Object")), .int]
  staticTypes := #[.long, .int, (.array (.object "java/lang/Object")), (.array (.object "java/lang/Object"))]
  resolved := Array.replicate 509 none
  statics := some 1 }

def pool19 : Array CpInfo := pool [(1, .class_ 2), (0, u "java/lang/Math"), (1, .class_ 6), (1, u "java/lang/Object"), (0, u "<init>"), (0, u "()V"), (89, .class_ 100), (1, u "java/lang/Math$RandomNumberGeneratorHolder"), (71, u "negativeZeroFloatBits"), (0, u "J"), (2, u "negativeZeroDoubleBits"), (21, u "max"), (46, u "$assertionsDisabled"), (0, u "Z"), (88, u "(II)I"), (2, u "twoToTheDoubleScaleDown"), (0, u "D"), (4, u "twoToTheDoubleScaleUp"), (9, u "E"), (3, u "PI"), (2, u "TAU"), (2, u "DEGREES_TO_RADIANS"), (0, u "RADIANS_TO_DEGREES")] 94

def k19m0 : Method := { name := "<init>", desc := "()V", sig := { parameters := [], returnType := none }, accessFlags := 2, code := none }
def k19c1 : Code := { maxStack := 2, maxLocals := 2, code := jdk_29_method_65_code, exceptionTable := #[], attributes := #[] }
def k19m1 : Method := { name := "max", desc := "(II)I", sig := { parameters := [.int, .int], returnType := some .int }, accessFlags := 9, code := some k19c1 }
/-- java/lang/Math -/
def k19 : Class := { plain "java/lang/Math" (some 0) with
  accessFlags := 49
  interfaces := #[]
  cf := some (fileOf pool19 1 #[.nestMembers #[98]] #[{ accessFlags := 2, nameIndex := 7, descriptorIndex := 8, attributes := #[] }, { accessFlags := 9, nameIndex := 198, descriptorIndex := 335, attributes := #[] }] 49 4 #[] #[{ accessFlags := 25, nameIndex := 354, descriptorIndex := 339, attributes := #[] }, { accessFlags := 25, nameIndex := 358, descriptorIndex := 339, attributes := #[] }, { accessFlags := 25, nameIndex := 361, descriptorIndex := 339, attributes := #[] }, { accessFlags := 26, nameIndex := 364, descriptorIndex := 339, attributes := #[] }, { accessFlags := 26, nameIndex := 365, descriptorIndex := 339, attributes := #[] }, { accessFlags := 26, nameIndex := 172, descriptorIndex := 173, attributes := #[] }, { accessFlags := 26, nameIndex := 176, descriptorIndex := 173, attributes := #[] }, { accessFlags := 8, nameIndex := 344, descriptorIndex := 339, attributes := #[] }, { accessFlags := 8, nameIndex := 338, descriptorIndex := 339, attributes := #[] }, { accessFlags := 4120, nameIndex := 245, descriptorIndex := 246, attributes := #[] }])
  fields := #[{ name := "E", type := .double, accessFlags := 25, slot := 0, constantValue := 0 }, { name := "PI", type := .double, accessFlags := 25, slot := 1, constantValue := 0 }, { name := "TAU", type := .double, accessFlags := 25, slot := 2, constantValue := 0 }, { name := "DEGREES_TO_RADIANS", type := .double, accessFlags := 26, slot := 3, constantValue := 0 }, { name := "RADIANS_TO_DEGREES", type := .double, accessFlags := 26, slot := 4, constantValue := 0 }, { name := "negativeZeroFloatBits", type := .long, accessFlags := 26, slot := 5, constantValue := 0 }, { name := "negativeZeroDoubleBits", type := .long, accessFlags := 26, slot := 6, constantValue := 0 }, { name := "twoToTheDoubleScaleUp", type := .double, accessFlags := 8, slot := 7, constantValue := 0 }, { name := "twoToTheDoubleScaleDown", type := .double, accessFlags := 8, slot := 8, constantValue := 0 }, { name := "$assertionsDisabled", type := .boolean, accessFlags := 4120, slot := 9, constantValue := 0 }]
  methods := #[k19m0, k19m1]
  instanceTypes := #[]
  staticTypes := #[.double, .double, .double, .double, .double, .long, .long, .double, .double, .boolean]
  resolved := Array.replicate 460 none
  statics := none }

def pool20 : Array CpInfo := pool [(4, .class_ 6), (1, u "java/lang/Object"), (0, u "<init>"), (0, u "()V"), (5, .class_ 16), (1, u "java/lang/StringLatin1"), (104, u "$assertionsDisabled"), (0, u "Z"), (98, .class_ 223), (1, u "java/lang/StringLatin1$LinesSpliterator"), (57, u "equals"), (0, u "([B[B)Z"), (107, .class_ 391), (0, u "java/lang/StringLatin1$CharsSpliterator")] 3

def k20m0 : Method := { name := "<init>", desc := "()V", sig := { parameters := [], returnType := none }, accessFlags := 0, code := none }
def k20c1 : Code := { maxStack := 3, maxLocals := 3, code := jdk_43_method_13_code, exceptionTable := #[], attributes := #[] }
def k20m1 : Method := { name := "equals", desc := "([B[B)Z", sig := { parameters := [(.array .byte), (.array .byte)], returnType := some .boolean }, accessFlags := 9, code := some k20c1 }
/-- java/lang/StringLatin1 -/
def k20 : Class := { plain "java/lang/StringLatin1" (some 0) with
  accessFlags := 48
  interfaces := #[]
  cf := some (fileOf pool20 14 #[.nestMembers #[390, 221]] #[{ accessFlags := 0, nameIndex := 7, descriptorIndex := 8, attributes := #[] }, { accessFlags := 9, nameIndex := 281, descriptorIndex := 282, attributes := #[] }] 48 4 #[] #[{ accessFlags := 4120, nameIndex := 121, descriptorIndex := 122, attributes := #[] }])
  fields := #[{ name := "$assertionsDisabled", type := .boolean, accessFlags := 4120, slot := 0, constantValue := 0 }]
  methods := #[k20m0, k20m1]
  instanceTypes := #[]
  staticTypes := #[.boolean]
  resolved := Array.replicate 395 none
  statics := none }

def pool21 : Array CpInfo := pool [(2, .class_ 4), (1, u "java/lang/Object"), (0, u "<init>"), (0, u "()V"), (17, .class_ 26), (1, u "jdk/internal/util/Preconditions"), (28, .class_ 56), (0, u "jdk/internal/util/Preconditions$4"), (57, .class_ 115), (0, u "jdk/internal/util/Preconditions$1"), (7, u "SIOOBE_FORMATTER"), (0, u "Ljava/util/function/BiFunction;"), (0, .class_ 126), (0, u "jdk/internal/util/Preconditions$2"), (3, u "AIOOBE_FORMATTER"), (0, .class_ 132), (0, u "jdk/internal/util/Preconditions$3"), (3, u "IOOBE_FORMATTER")] 57

def k21m0 : Method := { name := "<init>", desc := "()V", sig := { parameters := [], returnType := none }, accessFlags := 1, code := none }
/-- jdk/internal/util/Preconditions -/
def k21 : Class := { plain "jdk/internal/util/Preconditions" (some 0) with
  accessFlags := 33
  interfaces := #[]
  cf := some (fileOf pool21 24 #[.nestMembers #[55, 131, 125, 114]] #[{ accessFlags := 1, nameIndex := 5, descriptorIndex := 6, attributes := #[] }] 33 2 #[] #[{ accessFlags := 25, nameIndex := 123, descriptorIndex := 124, attributes := #[] }, { accessFlags := 25, nameIndex := 130, descriptorIndex := 124, attributes := #[] }, { accessFlags := 25, nameIndex := 136, descriptorIndex := 124, attributes := #[] }])
  fields := #[{ name := "SIOOBE_FORMATTER", type := (.object "java/util/function/BiFunction"), accessFlags := 25, slot := 0, constantValue := 0 }, { name := "AIOOBE_FORMATTER", type := (.object "java/util/function/BiFunction"), accessFlags := 25, slot := 1, constantValue := 0 }, { name := "IOOBE_FORMATTER", type := (.object "java/util/function/BiFunction"), accessFlags := 25, slot := 2, constantValue := 0 }]
  methods := #[k21m0]
  instanceTypes := #[]
  staticTypes := #[(.object "java/util/function/BiFunction"), (.object "java/util/function/BiFunction"), (.object "java/util/function/BiFunction")]
  resolved := Array.replicate 194 none
  statics := some 2 }

def pool22 : Array CpInfo := pool [(9, u "<init>"), (6, .class_ 18), (1, u "java/lang/Object"), (0, u "()V"), (1, .class_ 23), (1, u "jdk/internal/util/ArraysSupport"), (0, u "LOG2_ARRAY_LONG_INDEX_SCALE"), (0, u "I"), (2, u "U"), (0, u "Ljdk/internal/misc/Unsafe;"), (8, u "BIG_ENDIAN"), (0, u "Z"), (8, u "LOG2_BYTE_BIT_SIZE"), (4, u "LOG2_ARRAY_INT_INDEX_SCALE"), (54, u "JLA"), (0, u "Ljdk/internal/access/JavaLangAccess;"), (11, u "LOG2_ARRAY_BOOLEAN_INDEX_SCALE"), (9, u "LOG2_ARRAY_BYTE_INDEX_SCALE"), (5, u "LOG2_ARRAY_CHAR_INDEX_SCALE"), (5, u "LOG2_ARRAY_SHORT_INDEX_SCALE"), (18, u "LOG2_ARRAY_FLOAT_INDEX_SCALE"), (24, u "LOG2_ARRAY_DOUBLE_INDEX_SCALE"), (89, u "T_BOOLEAN"), (2, u "T_CHAR"), (1, u "T_FLOAT"), (1, u "T_DOUBLE"), (1, u "T_BYTE"), (1, u "T_SHORT"), (1, u "T_INT"), (1, u "T_LONG"), (1, u "SOFT_MAX_ARRAY_LENGTH")] 83

def k22m0 : Method := { name := "<init>", desc := "()V", sig := { parameters := [], returnType := none }, accessFlags := 2, code := none }
/-- jdk/internal/util/ArraysSupport -/
def k22 : Class := { plain "jdk/internal/util/ArraysSupport" (some 0) with
  accessFlags := 33
  interfaces := #[]
  cf := some (fileOf pool22 21 #[] #[{ accessFlags := 2, nameIndex := 9, descriptorIndex := 19, attributes := #[] }] 33 16 #[] #[{ accessFlags := 24, nameIndex := 28, descriptorIndex := 29, attributes := #[] }, { accessFlags := 26, nameIndex := 38, descriptorIndex := 39, attributes := #[] }, { accessFlags := 25, nameIndex := 121, descriptorIndex := 25, attributes := #[] }, { accessFlags := 25, nameIndex := 131, descriptorIndex := 25, attributes := #[] }, { accessFlags := 25, nameIndex := 137, descriptorIndex := 25, attributes := #[] }, { accessFlags := 25, nameIndex := 143, descriptorIndex := 25, attributes := #[] }, { accessFlags := 25, nameIndex := 53, descriptorIndex := 25, attributes := #[] }, { accessFlags := 25, nameIndex := 24, descriptorIndex := 25, attributes := #[] }, { accessFlags := 25, nameIndex := 162, descriptorIndex := 25, attributes := #[] }, { accessFlags := 25, nameIndex := 187, descriptorIndex := 25, attributes := #[] }, { accessFlags := 26, nameIndex := 48, descriptorIndex := 25, attributes := #[] }, { accessFlags := 25, nameIndex := 277, descriptorIndex := 25, attributes := #[] }, { accessFlags := 25, nameIndex := 280, descriptorIndex := 25, attributes := #[] }, { accessFlags := 25, nameIndex := 282, descriptorIndex := 25, attributes := #[] }, { accessFlags := 25, nameIndex := 284, descriptorIndex := 25, attributes := #[] }, { accessFlags := 25, nameIndex := 286, descriptorIndex := 25, attributes := #[] }, { accessFlags := 25, nameIndex := 288, descriptorIndex := 25, attributes := #[] }, { accessFlags := 25, nameIndex := 290, descriptorIndex := 25, attributes := #[] }, { accessFlags := 25, nameIndex := 292, descriptorIndex := 25, attributes := #[] }, { accessFlags := 26, nameIndex := 108, descriptorIndex := 109, attributes := #[] }, { accessFlags := 25, nameIndex := 294, descriptorIndex := 25, attributes := #[] }])
  fields := #[{ name := "U", type := (.object "jdk/internal/misc/Unsafe"), accessFlags := 24, slot := 0, constantValue := 0 }, { name := "BIG_ENDIAN", type := .boolean, accessFlags := 26, slot := 1, constantValue := 0 }, { name := "LOG2_ARRAY_BOOLEAN_INDEX_SCALE", type := .int, accessFlags := 25, slot := 2, constantValue := 0 }, { name := "LOG2_ARRAY_BYTE_INDEX_SCALE", type := .int, accessFlags := 25, slot := 3, constantValue := 0 }, { name := "LOG2_ARRAY_CHAR_INDEX_SCALE", type := .int, accessFlags := 25, slot := 4, constantValue := 0 }, { name := "LOG2_ARRAY_SHORT_INDEX_SCALE", type := .int, accessFlags := 25, slot := 5, constantValue := 0 }, { name := "LOG2_ARRAY_INT_INDEX_SCALE", type := .int, accessFlags := 25, slot := 6, constantValue := 0 }, { name := "LOG2_ARRAY_LONG_INDEX_SCALE", type := .int, accessFlags := 25, slot := 7, constantValue := 0 }, { name := "LOG2_ARRAY_FLOAT_INDEX_SCALE", type := .int, accessFlags := 25, slot := 8, constantValue := 0 }, { name := "LOG2_ARRAY_DOUBLE_INDEX_SCALE", type := .int, accessFlags := 25, slot := 9, constantValue := 0 }, { name := "LOG2_BYTE_BIT_SIZE", type := .int, accessFlags := 26, slot := 10, constantValue := 0 }, { name := "T_BOOLEAN", type := .int, accessFlags := 25, slot := 11, constantValue := 0 }, { name := "T_CHAR", type := .int, accessFlags := 25, slot := 12, constantValue := 0 }, { name := "T_FLOAT", type := .int, accessFlags := 25, slot := 13, constantValue := 0 }, { name := "T_DOUBLE", type := .int, accessFlags := 25, slot := 14, constantValue := 0 }, { name := "T_BYTE", type := .int, accessFlags := 25, slot := 15, constantValue := 0 }, { name := "T_SHORT", type := .int, accessFlags := 25, slot := 16, constantValue := 0 }, { name := "T_INT", type := .int, accessFlags := 25, slot := 17, constantValue := 0 }, { name := "T_LONG", type := .int, accessFlags := 25, slot := 18, constantValue := 0 }, { name := "JLA", type := (.object "jdk/internal/access/JavaLangAccess"), accessFlags := 26, slot := 19, constantValue := 0 }, { name := "SOFT_MAX_ARRAY_LENGTH", type := .int, accessFlags := 25, slot := 20, constantValue := 0 }]
  methods := #[k22m0]
  instanceTypes := #[]
  staticTypes := #[(.object "jdk/internal/misc/Unsafe"), .boolean, .int, .int, .int, .int, .int, .int, .int, .int, .int, .int, .int, .int, .int, .int, .int, .int, .int, (.object "jdk/internal/access/JavaLangAccess"), .int]
  resolved := Array.replicate 378 none
  statics := none }

/-- the primitive byte -/
def k23 : Class := { plain "byte" none with kind := .primitive 'B', accessFlags := 0x411 }
/-- [B -/
def k24 : Class := { plain "[B" (some 0) with kind := .array 23 .byte, interfaces := #[17, 2], accessFlags := 1041 }

/-- the primitive char -/
def k25 : Class := { plain "char" none with kind := .primitive 'C', accessFlags := 0x411 }
/-- [C -/
def k26 : Class := { plain "[C" (some 0) with kind := .array 25 .char, interfaces := #[17, 2], accessFlags := 1041 }

/-- the primitive int -/
def k27 : Class := { plain "int" none with kind := .primitive 'I', accessFlags := 0x411 }
/-- [I -/
def k28 : Class := { plain "[I" (some 0) with kind := .array 27 .int, interfaces := #[17, 2], accessFlags := 1041 }

/-- [Ljava/lang/Object; -/
def k29 : Class := { plain "[Ljava/lang/Object;" (some 0) with kind := .array 0 (.object "java/lang/Object"), interfaces := #[17, 2], accessFlags := 1041 }

def heap : Heap := #[{ cls := 7, slots := #[.long 0, .int 1, .null, .int 0, .null, .int 0, .int 0], vm := .statics 7 },
  { cls := 18, slots := #[.long 0, .int 0, .ref 3, .ref 4], vm := .statics 18 },
  { cls := 21, slots := #[.null, .null, .null], vm := .statics 21 },
  { cls := 29, slots := #[], vm := .none },
  { cls := 29, slots := #[], vm := .none }]
def classes : Array Class := #[k0, k1, k2, k3, k4, k5, k6, k7, k8, k9, k10, k11, k12, k13, k14, k15, k16, k17, k18, k19, k20, k21, k22, k23, k24, k25, k26, k27, k28, k29]
def interned : List (Array UInt16 × Addr) := []
def slotsUsed : Nat := 14
def theMethod : MethodId := ⟨1, 8⟩
def args0 : Array Value := #[.int 5, .int 4, .int 5, .int 4]
def aboutOver (below : List Frame) : State where
  vm := { classes := classes, interned := interned.toArray }
  heap := heap
  slotsUsed := slotsUsed
  threads := #[{ frames := .invoking theMethod args0 :: below }]
def below0 : List Frame := [.native { method := ⟨0, 0⟩, args := #[] }]
def about1 : State := aboutOver below0
def p0 : Program := .bare "" "" ""
def e0 : Env := launch0.env 0 0 0
theorem w_frames : about1.frames = Frame.invoking theMethod args0 :: below0 := rfl
set_option maxRecDepth 65536 in
theorem w_args : argsFit about1.vm theMethod args0 = true := by decide +kernel
set_option maxRecDepth 65536 in
theorem w_heap : heapFits about1 = true := by decide +kernel
set_option maxRecDepth 65536 in
theorem w_runnable : about1.curStatus? = some .runnable := by decide +kernel
set_option maxRecDepth 65536 in
theorem w_alone : about1.alone = true := by decide +kernel
set_option maxRecDepth 65536 in
theorem w_named : about1.methodNamed? x = some theMethod := by decide +kernel
set_option maxRecDepth 65536 in
theorem w_hears : about1.hears theMethod below0 = true := by decide +kernel
set_option maxRecDepth 65536 in
theorem w_ripe : about1.ripe theMethod args0 below0 = true := by decide +kernel
theorem w_running : about1.status = .running := rfl
set_option maxRecDepth 65536 in
theorem w_room : about1.hasRoom e0.platform room_1 = true :=
  launch0.hasRoom_least _ room_1 (by decide +kernel) (by decide +kernel) (by decide +kernel) (by decide +kernel) (by decide +kernel) (by decide +kernel)
theorem allAtoms_all (ts : List Jvm.Cond) (a : Array Jvm.Value) (st : Jvm.State) : (allAtoms ts).before a st = ts.all (fun c => c.before a st) := by
  induction ts with
  | nil => rfl
  | cons c t ih =>
    show (Jvm.Cond.and c (allAtoms t)).before a st = _
    rw [Jvm.Cond.before_and, ih, List.all_cons]
def words1 : List Jvm.Cond := Jvm.Cond.code x code maxLocals ret :: tables_1
/-- a 'code' word, met by the world's own term for the bytes: nothing is compared byte by byte -/
theorem code_word {y : MethodName} {bytes : ByteArray} {mx : Nat} {rt : Option FieldType} {a : Array Value} {s : State} {m : MethodId} {meth : Method} {c : Code} (h1 : s.methodNamed? y = some m) (h2 : s.vm.method? m = some meth) (h3 : meth.code = some c) (h4 : c.code = bytes)
    (h5 : (c.maxLocals == mx && c.exceptionTable.isEmpty && decide (c.maxStack ≤ mostOperands) && decide (meth.sig.returnType = rt) && !meth.locks && decide (parseMethodDescriptor y.desc = some meth.sig)) = true) : (Jvm.Cond.code y bytes mx rt).before a s = true := by
  simp only [Bool.and_eq_true, beq_iff_eq, Bool.not_eq_true', decide_eq_true_eq] at h5
  obtain ⟨⟨⟨⟨⟨g1, g2⟩, g3⟩, g4⟩, g5⟩, g6⟩ := h5
  simp [Cond.before, Cond.holds, Cond.value, h1, h2, h3, h4, g1, g2, g3, g4, g5, g6]
def isCode : Jvm.Cond → Bool
  | .code _ _ _ _ => true
  | _ => false
theorem all_split {L : List Jvm.Cond} {P : Jvm.Cond → Bool} (h1 : L.all (fun c => isCode c || P c) = true) (h2 : ∀ c ∈ L.filter isCode, P c = true) : L.all P = true := by
  refine List.all_eq_true.mpr fun c hc => ?_
  have h := List.all_eq_true.mp h1 c hc
  rcases Bool.eq_false_or_eq_true (isCode c) with hi | hi
  · exact h2 c (List.mem_filter.mpr ⟨hc, hi⟩)
  · simpa [hi] using h
set_option maxRecDepth 65536 in
theorem w_c0 : (Jvm.Cond.code x code maxLocals ret).before args0 about1 = true := code_word (m := ⟨1, 8⟩) (meth := k1m8) (c := k1c8) (by decide +kernel) rfl rfl rfl (by decide +kernel)
set_option maxRecDepth 65536 in
theorem w_c1 : (Jvm.Cond.code ({ cls := "com/example/homethread/homethread/cli/ScenarioReportExitStatusPinLaw", name := "exp", desc := "(II)Ljava/lang/String;" } : Jvm.MethodName) method_5_code (2 : Nat) (Option.some (Jvm.ClassFile.FieldType.object "java/lang/String"))).before args0 about1 = true := code_word (m := ⟨1, 4⟩) (meth := k1m4) (c := k1c4) (by decide +kernel) rfl rfl rfl (by decide +kernel)
set_option maxRecDepth 65536 in
theorem w_c2 : (Jvm.Cond.code ({ cls := "com/example/homethread/homethread/cli/ScenarioReportExitStatusPinLaw", name := "str", desc := "(IIZ)Ljava/lang/String;" } : Jvm.MethodName) method_2_code (3 : Nat) (Option.some (Jvm.ClassFile.FieldType.object "java/lang/String"))).before args0 about1 = true := code_word (m := ⟨1, 1⟩) (meth := k1m1) (c := k1c1) (by decide +kernel) rfl rfl rfl (by decide +kernel)
set_option maxRecDepth 65536 in
theorem w_c3 : (Jvm.Cond.code ({ cls := "java/lang/String", name := "<init>", desc := "([C)V" } : Jvm.MethodName) jdk_42_method_3_code (2 : Nat) (Option.none : Option Jvm.ClassFile.FieldType)).before args0 about1 = true := code_word (m := ⟨7, 1⟩) (meth := k7m1) (c := k7c1) (by decide +kernel) rfl rfl rfl (by decide +kernel)
set_option maxRecDepth 65536 in
theorem w_c4 : (Jvm.Cond.code ({ cls := "java/lang/String", name := "<init>", desc := "([CIILjava/lang/Void;)V" } : Jvm.MethodName) jdk_42_method_149_code (6 : Nat) (Option.none : Option Jvm.ClassFile.FieldType)).before args0 about1 = true := code_word (m := ⟨7, 3⟩) (meth := k7m3) (c := k7c3) (by decide +kernel) rfl rfl rfl (by decide +kernel)
set_option maxRecDepth 65536 in
theorem w_c5 : (Jvm.Cond.code ({ cls := "java/lang/Object", name := "<init>", desc := "()V" } : Jvm.MethodName) object_method_1_code (1 : Nat) (Option.none : Option Jvm.ClassFile.FieldType)).before args0 about1 = true := code_word (m := ⟨0, 0⟩) (meth := k0m0) (c := k0c0) (by decide +kernel) rfl rfl rfl (by decide +kernel)
set_option maxRecDepth 65536 in
theorem w_c6 : (Jvm.Cond.code ({ cls := "java/lang/StringUTF16", name := "compress", desc := "([CII)[B" } : Jvm.MethodName) jdk_52_method_16_code (6 : Nat) (Option.some (Jvm.ClassFile.FieldType.array Jvm.ClassFile.FieldType.byte))).before args0 about1 = true := code_word (m := ⟨8, 2⟩) (meth := k8m2) (c := k8c2) (by decide +kernel) rfl rfl rfl (by decide +kernel)
set_option maxRecDepth 65536 in
theorem w_c7 : (Jvm.Cond.code ({ cls := "java/lang/StringUTF16", name := "compress", desc := "([CI[BII)I" } : Jvm.MethodName) jdk_52_method_21_code (7 : Nat) (Option.some Jvm.ClassFile.FieldType.int)).before args0 about1 = true := code_word (m := ⟨8, 3⟩) (meth := k8m3) (c := k8c3) (by decide +kernel) rfl rfl rfl (by decide +kernel)
set_option maxRecDepth 65536 in
theorem w_c8 : (Jvm.Cond.code ({ cls := "java/lang/StringUTF16", name := "coderFromArrayLen", desc := "([BI)B" } : Jvm.MethodName) jdk_52_method_15_code (2 : Nat) (Option.some Jvm.ClassFile.FieldType.byte)).before args0 about1 = true := code_word (m := ⟨8, 1⟩) (meth := k8m1) (c := k8c1) (by decide +kernel) rfl rfl rfl (by decide +kernel)
set_option maxRecDepth 65536 in
theorem w_c9 : (Jvm.Cond.code ({ cls := "com/example/homethread/homethread/cli/ScenarioReportExitStatusPinLaw", name := "obs", desc := "(II)Ljava/lang/String;" } : Jvm.MethodName) method_6_code (2 : Nat) (Option.some (Jvm.ClassFile.FieldType.object "java/lang/String"))).before args0 about1 = true := code_word (m := ⟨1, 5⟩) (meth := k1m5) (c := k1c5) (by decide +kernel) rfl rfl rfl (by decide +kernel)
set_option maxRecDepth 65536 in
theorem w_c10 : (Jvm.Cond.code ({ cls := "com/example/homethread/homethread/cli/ScenarioReportExitStatusPinLaw", name := "x0", desc := "(I)I" } : Jvm.MethodName) method_3_code (1 : Nat) (Option.some Jvm.ClassFile.FieldType.int)).before args0 about1 = true := code_word (m := ⟨1, 2⟩) (meth := k1m2) (c := k1c2) (by decide +kernel) rfl rfl rfl (by decide +kernel)
set_option maxRecDepth 65536 in
theorem w_c11 : (Jvm.Cond.code ({ cls := "com/example/homethread/homethread/cli/ScenarioReportExitStatusPinLaw", name := "x1", desc := "(I)I" } : Jvm.MethodName) method_4_code (1 : Nat) (Option.some Jvm.ClassFile.FieldType.int)).before args0 about1 = true := code_word (m := ⟨1, 3⟩) (meth := k1m3) (c := k1c3) (by decide +kernel) rfl rfl rfl (by decide +kernel)
set_option maxRecDepth 65536 in
theorem w_c12 : (Jvm.Cond.code ({ cls := "com/example/homethread/homethread/cli/ScenarioReportExitStatusPinLaw", name := "same", desc := "(II)Z" } : Jvm.MethodName) method_7_code (4 : Nat) (Option.some Jvm.ClassFile.FieldType.boolean)).before args0 about1 = true := code_word (m := ⟨1, 6⟩) (meth := k1m6) (c := k1c6) (by decide +kernel) rfl rfl rfl (by decide +kernel)
set_option maxRecDepth 65536 in
theorem w_c13 : (Jvm.Cond.code ({ cls := "com/example/homethread/homethread/cli/ScenarioReport", name := "<init>", desc := "()V" } : Jvm.MethodName) prog_42_method_1_code (1 : Nat) (Option.none : Option Jvm.ClassFile.FieldType)).before args0 about1 = true := code_word (m := ⟨9, 0⟩) (meth := k9m0) (c := k9c0) (by decide +kernel) rfl rfl rfl (by decide +kernel)
set_option maxRecDepth 65536 in
theorem w_c14 : (Jvm.Cond.code ({ cls := "java/util/ArrayList", name := "<init>", desc := "()V" } : Jvm.MethodName) jdk_38_method_2_code (1 : Nat) (Option.none : Option Jvm.ClassFile.FieldType)).before args0 about1 = true := code_word (m := ⟨18, 0⟩) (meth := k18m0) (c := k18c0) (by decide +kernel) rfl rfl rfl (by decide +kernel)
set_option maxRecDepth 65536 in
theorem w_c15 : (Jvm.Cond.code ({ cls := "java/util/AbstractList", name := "<init>", desc := "()V" } : Jvm.MethodName) jdk_39_method_1_code (1 : Nat) (Option.none : Option Jvm.ClassFile.FieldType)).before args0 about1 = true := code_word (m := ⟨15, 0⟩) (meth := k15m0) (c := k15c0) (by decide +kernel) rfl rfl rfl (by decide +kernel)
set_option maxRecDepth 65536 in
theorem w_c16 : (Jvm.Cond.code ({ cls := "java/util/AbstractCollection", name := "<init>", desc := "()V" } : Jvm.MethodName) jdk_22_method_1_code (1 : Nat) (Option.none : Option Jvm.ClassFile.FieldType)).before args0 about1 = true := code_word (m := ⟨12, 0⟩) (meth := k12m0) (c := k12c0) (by decide +kernel) rfl rfl rfl (by decide +kernel)
set_option maxRecDepth 65536 in
theorem w_c17 : (Jvm.Cond.code ({ cls := "com/example/homethread/homethread/cli/ScenarioReport", name := "exitStatus", desc := "()I" } : Jvm.MethodName) prog_42_method_5_code (1 : Nat) (Option.some Jvm.ClassFile.FieldType.int)).before args0 about1 = true := code_word (m := ⟨9, 2⟩) (meth := k9m2) (c := k9c2) (by decide +kernel) rfl rfl rfl (by decide +kernel)
set_option maxRecDepth 65536 in
theorem w_c18 : (Jvm.Cond.code ({ cls := "com/example/homethread/homethread/cli/ScenarioReport", name := "expectLine", desc := "(Ljava/lang/String;Ljava/lang/String;)V" } : Jvm.MethodName) prog_42_method_3_code (3 : Nat) (Option.none : Option Jvm.ClassFile.FieldType)).before args0 about1 = true := code_word (m := ⟨9, 1⟩) (meth := k9m1) (c := k9c1) (by decide +kernel) rfl rfl rfl (by decide +kernel)
set_option maxRecDepth 65536 in
theorem w_c19 : (Jvm.Cond.code ({ cls := "java/util/ArrayList", name := "add", desc := "(Ljava/lang/Object;)Z" } : Jvm.MethodName) jdk_38_method_25_code (2 : Nat) (Option.some Jvm.ClassFile.FieldType.boolean)).before args0 about1 = true := code_word (m := ⟨18, 4⟩) (meth := k18m4) (c := k18c4) (by decide +kernel) rfl rfl rfl (by decide +kernel)
set_option maxRecDepth 65536 in
theorem w_c20 : (Jvm.Cond.code ({ cls := "java/util/ArrayList", name := "add", desc := "(Ljava/lang/Object;[Ljava/lang/Object;I)V" } : Jvm.MethodName) jdk_38_method_24_code (4 : Nat) (Option.none : Option Jvm.ClassFile.FieldType)).before args0 about1 = true := code_word (m := ⟨18, 3⟩) (meth := k18m3) (c := k18c3) (by decide +kernel) rfl rfl rfl (by decide +kernel)
set_option maxRecDepth 65536 in
theorem w_c21 : (Jvm.Cond.code ({ cls := "java/util/ArrayList", name := "grow", desc := "()[Ljava/lang/Object;" } : Jvm.MethodName) jdk_38_method_7_code (1 : Nat) (Option.some (Jvm.ClassFile.FieldType.array (Jvm.ClassFile.FieldType.object "java/lang/Object")))).before args0 about1 = true := code_word (m := ⟨18, 2⟩) (meth := k18m2) (c := k18c2) (by decide +kernel) rfl rfl rfl (by decide +kernel)
set_option maxRecDepth 65536 in
theorem w_c22 : (Jvm.Cond.code ({ cls := "java/util/ArrayList", name := "grow", desc := "(I)[Ljava/lang/Object;" } : Jvm.MethodName) jdk_38_method_6_code (4 : Nat) (Option.some (Jvm.ClassFile.FieldType.array (Jvm.ClassFile.FieldType.object "java/lang/Object")))).before args0 about1 = true := code_word (m := ⟨18, 1⟩) (meth := k18m1) (c := k18c1) (by decide +kernel) rfl rfl rfl (by decide +kernel)
set_option maxRecDepth 65536 in
theorem w_c23 : (Jvm.Cond.code ({ cls := "java/lang/Math", name := "max", desc := "(II)I" } : Jvm.MethodName) jdk_29_method_65_code (2 : Nat) (Option.some Jvm.ClassFile.FieldType.int)).before args0 about1 = true := code_word (m := ⟨19, 1⟩) (meth := k19m1) (c := k19c1) (by decide +kernel) rfl rfl rfl (by decide +kernel)
set_option maxRecDepth 65536 in
theorem w_c24 : (Jvm.Cond.code ({ cls := "java/lang/String", name := "equals", desc := "(Ljava/lang/Object;)Z" } : Jvm.MethodName) jdk_42_method_66_code (3 : Nat) (Option.some Jvm.ClassFile.FieldType.boolean)).before args0 about1 = true := code_word (m := ⟨7, 2⟩) (meth := k7m2) (c := k7c2) (by decide +kernel) rfl rfl rfl (by decide +kernel)
set_option maxRecDepth 65536 in
theorem w_c25 : (Jvm.Cond.code ({ cls := "java/lang/StringLatin1", name := "equals", desc := "([B[B)Z" } : Jvm.MethodName) jdk_43_method_13_code (3 : Nat) (Option.some Jvm.ClassFile.FieldType.boolean)).before args0 about1 = true := code_word (m := ⟨20, 1⟩) (meth := k20m1) (c := k20c1) (by decide +kernel) rfl rfl rfl (by decide +kernel)
set_option maxRecDepth 65536 in
theorem w_c26 : (Jvm.Cond.code ({ cls := "com/example/homethread/homethread/cli/ScenarioReportExitStatusPinLaw", name := "want", desc := "(Z)I" } : Jvm.MethodName) method_8_code (1 : Nat) (Option.some Jvm.ClassFile.FieldType.int)).before args0 about1 = true := code_word (m := ⟨1, 7⟩) (meth := k1m7) (c := k1c7) (by decide +kernel) rfl rfl rfl (by decide +kernel)
def codes1 : List Jvm.Cond := [Jvm.Cond.code x code maxLocals ret, Jvm.Cond.code ({ cls := "com/example/homethread/homethread/cli/ScenarioReportExitStatusPinLaw", name := "exp", desc := "(II)Ljava/lang/String;" } : Jvm.MethodName) method_5_code (2 : Nat) (Option.some (Jvm.ClassFile.FieldType.object "java/lang/String")), Jvm.Cond.code ({ cls := "com/example/homethread/homethread/cli/ScenarioReportExitStatusPinLaw", name := "str", desc := "(IIZ)Ljava/lang/String;" } : Jvm.MethodName) method_2_code (3 : Nat) (Option.some (Jvm.ClassFile.FieldType.object "java/lang/String")), Jvm.Cond.code ({ cls := "java/lang/String", name := "<init>", desc := "([C)V" } : Jvm.MethodName) jdk_42_method_3_code (2 : Nat) (Option.none : Option Jvm.ClassFile.FieldType), Jvm.Cond.code ({ cls := "java/lang/String", name := "<init>", desc := "([CIILjava/lang/Void;)V" } : Jvm.MethodName) jdk_42_method_149_code (6 : Nat) (Option.none : Option Jvm.ClassFile.FieldType), Jvm.Cond.code ({ cls := "java/lang/Object", name := "<init>", desc := "()V" } : Jvm.MethodName) object_method_1_code (1 : Nat) (Option.none : Option Jvm.ClassFile.FieldType), Jvm.Cond.code ({ cls := "java/lang/StringUTF16", name := "compress", desc := "([CII)[B" } : Jvm.MethodName) jdk_52_method_16_code (6 : Nat) (Option.some (Jvm.ClassFile.FieldType.array Jvm.ClassFile.FieldType.byte)), Jvm.Cond.code ({ cls := "java/lang/StringUTF16", name := "compress", desc := "([CI[BII)I" } : Jvm.MethodName) jdk_52_method_21_code (7 : Nat) (Option.some Jvm.ClassFile.FieldType.int), Jvm.Cond.code ({ cls := "java/lang/StringUTF16", name := "coderFromArrayLen", desc := "([BI)B" } : Jvm.MethodName) jdk_52_method_15_code (2 : Nat) (Option.some Jvm.ClassFile.FieldType.byte), Jvm.Cond.code ({ cls := "com/example/homethread/homethread/cli/ScenarioReportExitStatusPinLaw", name := "obs", desc := "(II)Ljava/lang/String;" } : Jvm.MethodName) method_6_code (2 : Nat) (Option.some (Jvm.ClassFile.FieldType.object "java/lang/String")), Jvm.Cond.code ({ cls := "com/example/homethread/homethread/cli/ScenarioReportExitStatusPinLaw", name := "x0", desc := "(I)I" } : Jvm.MethodName) method_3_code (1 : Nat) (Option.some Jvm.ClassFile.FieldType.int), Jvm.Cond.code ({ cls := "com/example/homethread/homethread/cli/ScenarioReportExitStatusPinLaw", name := "x1", desc := "(I)I" } : Jvm.MethodName) method_4_code (1 : Nat) (Option.some Jvm.ClassFile.FieldType.int), Jvm.Cond.code ({ cls := "com/example/homethread/homethread/cli/ScenarioReportExitStatusPinLaw", name := "same", desc := "(II)Z" } : Jvm.MethodName) method_7_code (4 : Nat) (Option.some Jvm.ClassFile.FieldType.boolean), Jvm.Cond.code ({ cls := "com/example/homethread/homethread/cli/ScenarioReport", name := "<init>", desc := "()V" } : Jvm.MethodName) prog_42_method_1_code (1 : Nat) (Option.none : Option Jvm.ClassFile.FieldType), Jvm.Cond.code ({ cls := "java/util/ArrayList", name := "<init>", desc := "()V" } : Jvm.MethodName) jdk_38_method_2_code (1 : Nat) (Option.none : Option Jvm.ClassFile.FieldType), Jvm.Cond.code ({ cls := "java/util/AbstractList", name := "<init>", desc := "()V" } : Jvm.MethodName) jdk_39_method_1_code (1 : Nat) (Option.none : Option Jvm.ClassFile.FieldType), Jvm.Cond.code ({ cls := "java/util/AbstractCollection", name := "<init>", desc := "()V" } : Jvm.MethodName) jdk_22_method_1_code (1 : Nat) (Option.none : Option Jvm.ClassFile.FieldType), Jvm.Cond.code ({ cls := "com/example/homethread/homethread/cli/ScenarioReport", name := "exitStatus", desc := "()I" } : Jvm.MethodName) prog_42_method_5_code (1 : Nat) (Option.some Jvm.ClassFile.FieldType.int), Jvm.Cond.code ({ cls := "com/example/homethread/homethread/cli/ScenarioReport", name := "expectLine", desc := "(Ljava/lang/String;Ljava/lang/String;)V" } : Jvm.MethodName) prog_42_method_3_code (3 : Nat) (Option.none : Option Jvm.ClassFile.FieldType), Jvm.Cond.code ({ cls := "java/util/ArrayList", name := "add", desc := "(Ljava/lang/Object;)Z" } : Jvm.MethodName) jdk_38_method_25_code (2 : Nat) (Option.some Jvm.ClassFile.FieldType.boolean), Jvm.Cond.code ({ cls := "java/util/ArrayList", name := "add", desc := "(Ljava/lang/Object;[Ljava/lang/Object;I)V" } : Jvm.MethodName) jdk_38_method_24_code (4 : Nat) (Option.none : Option Jvm.ClassFile.FieldType), Jvm.Cond.code ({ cls := "java/util/ArrayList", name := "grow", desc := "()[Ljava/lang/Object;" } : Jvm.MethodName) jdk_38_method_7_code (1 : Nat) (Option.some (Jvm.ClassFile.FieldType.array (Jvm.ClassFile.FieldType.object "java/lang/Object"))), Jvm.Cond.code ({ cls := "java/util/ArrayList", name := "grow", desc := "(I)[Ljava/lang/Object;" } : Jvm.MethodName) jdk_38_method_6_code (4 : Nat) (Option.some (Jvm.ClassFile.FieldType.array (Jvm.ClassFile.FieldType.object "java/lang/Object"))), Jvm.Cond.code ({ cls := "java/lang/Math", name := "max", desc := "(II)I" } : Jvm.MethodName) jdk_29_method_65_code (2 : Nat) (Option.some Jvm.ClassFile.FieldType.int), Jvm.Cond.code ({ cls := "java/lang/String", name := "equals", desc := "(Ljava/lang/Object;)Z" } : Jvm.MethodName) jdk_42_method_66_code (3 : Nat) (Option.some Jvm.ClassFile.FieldType.boolean), Jvm.Cond.code ({ cls := "java/lang/StringLatin1", name := "equals", desc := "([B[B)Z" } : Jvm.MethodName) jdk_43_method_13_code (3 : Nat) (Option.some Jvm.ClassFile.FieldType.boolean), Jvm.Cond.code ({ cls := "com/example/homethread/homethread/cli/ScenarioReportExitStatusPinLaw", name := "want", desc := "(Z)I" } : Jvm.MethodName) method_8_code (1 : Nat) (Option.some Jvm.ClassFile.FieldType.int)]
set_option maxRecDepth 65536 in
theorem codes_eq : words1.filter isCode = codes1 := rfl
theorem w_codes : ∀ c ∈ words1.filter isCode, c.before args0 about1 = true := by
  rw [codes_eq]
  intro c hc
  simp only [codes1, List.mem_cons, List.not_mem_nil, or_false] at hc
  rcases hc with rfl | rfl | rfl | rfl | rfl | rfl | rfl | rfl | rfl | rfl | rfl | rfl | rfl | rfl | rfl | rfl | rfl | rfl | rfl | rfl | rfl | rfl | rfl | rfl | rfl | rfl | rfl
  · exact w_c0
  · exact w_c1
  · exact w_c2
  · exact w_c3
  · exact w_c4
  · exact w_c5
  · exact w_c6
  · exact w_c7
  · exact w_c8
  · exact w_c9
  · exact w_c10
  · exact w_c11
  · exact w_c12
  · exact w_c13
  · exact w_c14
  · exact w_c15
  · exact w_c16
  · exact w_c17
  · exact w_c18
  · exact w_c19
  · exact w_c20
  · exact w_c21
  · exact w_c22
  · exact w_c23
  · exact w_c24
  · exact w_c25
  · exact w_c26
set_option maxRecDepth 65536 in
theorem w_t1 : (words1.take 24).all (fun c => isCode c || c.before args0 about1) = true := by decide +kernel
set_option maxRecDepth 65536 in
theorem w_t2 : ((words1.drop 24).take 24).all (fun c => isCode c || c.before args0 about1) = true := by decide +kernel
set_option maxRecDepth 65536 in
theorem w_t3 : (((words1.drop 24).drop 24).take 24).all (fun c => isCode c || c.before args0 about1) = true := by decide +kernel
set_option maxRecDepth 65536 in
theorem w_t4 : ((((words1.drop 24).drop 24).drop 24).take 24).all (fun c => isCode c || c.before args0 about1) = true := by decide +kernel
set_option maxRecDepth 65536 in
theorem w_t5 : (((((words1.drop 24).drop 24).drop 24).drop 24).take 24).all (fun c => isCode c || c.before args0 about1) = true := by decide +kernel
set_option maxRecDepth 65536 in
theorem w_t6 : (((((words1.drop 24).drop 24).drop 24).drop 24).drop 24).all (fun c => isCode c || c.before args0 about1) = true := by decide +kernel
theorem w_tables : (allAtoms (Jvm.Cond.code x code maxLocals ret :: tables_1)).before args0 about1 = true := by
  rw [allAtoms_all]
  show words1.all (fun c => c.before args0 about1) = true
  refine all_split ?_ w_codes
  rw [← List.take_append_drop 24 words1, List.all_append, w_t1, ← List.take_append_drop 24 (words1.drop 24), List.all_append, w_t2, ← List.take_append_drop 24 ((words1.drop 24).drop 24), List.all_append, w_t3, ← List.take_append_drop 24 (((words1.drop 24).drop 24).drop 24), List.all_append, w_t4, ← List.take_append_drop 24 ((((words1.drop 24).drop 24).drop 24).drop 24), List.all_append, w_t5, w_t6]
  rfl
set_option maxRecDepth 65536 in
theorem w_rest : rest_1_c.before args0 about1 = true := by decide +kernel
set_option maxRecDepth 65536 in
theorem w_case : (Jvm.Cond.and given_1 narrow_1).before args0 about1 = true := by decide +kernel
theorem w_applies : (headSpec (Jvm.Cond.code x code maxLocals ret :: tables_1) room_1).applies x e0.platform about1 = true :=
  (Spec.applies_iff w_frames).mpr ⟨w_running, w_runnable, w_alone, w_named, w_hears, w_ripe, w_room, w_tables⟩
theorem atStart : AtStart classFile x code maxLocals ret World_1 tables_1 room_1 Calls_1 rest_1 Pre_1 launch0 p0 e0 about1 theMethod args0 below0 :=
  ⟨lists_1, trivial, launch0.admits_env _ _ _, launch0.least_env, fairChoices_fair.cas, fairChoices_fair.clock, w_frames, w_args, w_heap, w_applies, trivial, w_rest, w_case⟩
end start1
theorem witness_1 : WitnessClaimed_1 := ⟨start1.p0, start1.e0, start1.about1, start1.theMethod, start1.args0, start1.below0, start1.atStart⟩
end Jvm.Pilot.@@N@@
