import JvmDerived
import JvmDerived.Pilot.@@N@@Statement
import JvmDerived.Pilot.@@N@@Code
set_option linter.unusedVariables false
set_option linter.unusedSimpArgs false
@@BLOCK:NumsL.lean.txt@@
namespace Jvm.RoadKit
open Sem ClassFile Op Lib Jvm.Stand Jvm.Free Jvm.LawKit
section New
variable {p : Program} {l : Launch} {e : Env} {R : Room} {s : State} {m : MethodId} {args : Array Value} {below : List Frame} {meth : Method} {c : Code} {T : State} {locs : List Loc} {cells slots : Nat}
theorem retI (X : Stand p l e R s m args below meth c T locs cells slots) (hx : p.tables.exec = Jvm.exec) {pc : Nat} {Ls : Array Slot} {z : Int32} {rest : List Value} (hret : meth.sig.returnType = some .int) (hd : decode c.code pc = .ok (.ireturn, 1)) {fs : List Frame}
    (hl : ∀ (f : JFrame) (acts : List Action), f.method = m → f.locked = none → f.entered = [] → (doReturn e (T.setTop f) acts (some (.int z))).1 = T.setFrames fs) : Steps p.tables e below (T.setTop (mkF m pc Ls (.int z :: rest))) (T.setFrames fs) := by
  have hm' : T.vm.method? m = some meth := X.method'
  have hn : narrow .int (.int z) = .int z := rfl
  show Steps p.tables e below (T.setTop { method := m, pc := pc, locals := Ls, stack := _ :: rest, locked := none }) _
  jvm_step X.here [X.here.top, hx, hd, hm', hret, hn]
  first | (intro acts; rw [hl _ acts rfl rfl rfl]) | rw [hl _ _ rfl rfl rfl]
  exact Steps.refl _
end New
end Jvm.RoadKit
namespace Jvm.Pilot.@@N@@
open Jvm Jvm.ClassFile Sem Op Lib Jvm.Free Jvm.Stand Jvm.LawKit Jvm.RoadKit Bundle Jvm.Pilot.@@N@@.Jvm.D
theorem own_fld_ne {Z : State} {h : Heap} {a b : Addr} {C n d : String} {v w : Value} (F : Fld Z h a C n d v) (G : Fld Z h b C n d w) (q : v ≠ w) : a ≠ b := fun e => by
  subst e
  obtain ⟨c1, cf1, k1, i1, f1, a1, a2, -, -, -, -, a7⟩ := F
  obtain ⟨c2, cf2, k2, i2, f2, b1, b2, -, -, -, -, b7⟩ := G
  cases a1.symm.trans b1
  cases a2.symm.trans b2
  exact q (Option.some.inj (a7.symm.trans b7))
theorem own_fldI {args : Array Value} {s : State} {t : Term} {a : Addr} {C n d : String} {k : Int32} (ht : t.eval args s none [] s = some (.ref a)) (h : (Jvm.Cond.eq (Term.field t C n d) (Term.int k)).value args s none s [] = some true) : Fld s s.heap a C n d (.int k) := by
  apply Fld.start
  have e1 : (Term.field t C n d).eval args s none [] s = s.fieldOf? a C n d := fld_at ht
  have e2 : (Term.int k).eval args s none [] s = some (.int k) := Term.int_eval k
  simp only [Cond.value, e1, e2] at h
  split at h <;> simp_all
theorem own_nm0 {a : Addr} : a ∉ ([] : List Addr) := List.not_mem_nil
theorem own_nm1 {a x : Addr} (h : a ≠ x) : a ∉ [x] := fun q => h (List.mem_singleton.mp q)
theorem own_nm2 {a x y : Addr} (h : a ≠ x) (h2 : a ≠ y) : a ∉ [x, y] := fun q => by
  rcases List.mem_cons.mp q with q | q
  · exact h q
  · exact h2 (List.mem_singleton.mp q)
theorem own_nm3 {a x y z : Addr} (h : a ≠ x) (h2 : a ≠ y) (h3 : a ≠ z) : a ∉ [x, y, z] := fun q => by
  rcases List.mem_cons.mp q with q | q
  · exact h q
  · exact own_nm2 h2 h3 q
theorem own_all0 {P : Addr → Prop} : ∀ x ∈ ([] : List Addr), P x := fun x q => (List.not_mem_nil q).elim
theorem own_all1 {P : Addr → Prop} {a : Addr} (h : P a) : ∀ x ∈ [a], P x := fun x q => by rw [List.mem_singleton.mp q]; exact h
theorem own_all2 {P : Addr → Prop} {a b : Addr} (h : P a) (h2 : P b) : ∀ x ∈ [a, b], P x := fun x q => by
  rcases List.mem_cons.mp q with q | q
  · rw [q]; exact h
  · rw [List.mem_singleton.mp q]; exact h2
theorem own_all3 {P : Addr → Prop} {a b c : Addr} (h : P a) (h2 : P b) (h3 : P c) : ∀ x ∈ [a, b, c], P x := fun x q => by
  rcases List.mem_cons.mp q with q | q
  · rw [q]; exact h
  · exact own_all2 h2 h3 x q
def own_b (c : Int32) : Int32 := nar .byte ((nar .char (c.toUInt32.toUInt16.toUInt32.toInt32)).toInt8.toInt32)
def own_cs (b c0 c1 : Int32) : List Int32 := if b = (0 : Int32) then [c0] else [c0, c1]
def own_eqv (a b : List Int32) : Int32 := if a = b then (1 : Int32) else (0 : Int32)
def own_str (Z : State) (h : Heap) (r : Addr) (b c0 c1 : Int32) : Prop := ∃ (t : Addr) (k : ClassId) (n : Int32), Exa Z h r "java/lang/String" ∧ Fld Z h r "java/lang/String" "coder" "B" (.int (0 : Int32)) ∧ Fld Z h r "java/lang/String" "value" "[B" (.ref t) ∧ Arv Z h t k .byte n ((own_cs b c0 c1).map Value.int) (.int (0 : Int32)) ∧ n = (if b = (0 : Int32) then (1 : Int32) else (2 : Int32))
theorem own_str_ext {Z : State} {h h' : Heap} {r : Addr} {b c0 c1 : Int32} (F : own_str Z h r b c0 c1) (E : Ext h h') : own_str Z h' r b c0 c1 := by
  obtain ⟨t, k, n, f1, f2, f3, f4, f5⟩ := F
  exact ⟨t, k, n, f1.ext E, f2.ext E, f3.ext E, f4.ext E, f5⟩
theorem own_str_b {Z : State} {h : Heap} {r : Addr} {b b' c0 c1 : Int32} (F : own_str Z h r b c0 c1) (q : b = (0 : Int32) ↔ b' = (0 : Int32)) : own_str Z h r b' c0 c1 := by
  obtain ⟨t, k, n, f1, f2, f3, f4, f5⟩ := F
  by_cases hb : b = (0 : Int32)
  · have hb' := q.mp hb
    exact ⟨t, k, n, f1, f2, f3, by simpa [own_cs, hb, hb'] using f4, by simpa [hb, hb'] using f5⟩
  · have hb' : ¬ b' = (0 : Int32) := fun z => hb (q.mpr z)
    exact ⟨t, k, n, f1, f2, f3, by simpa [own_cs, hb, hb'] using f4, by simpa [hb, hb'] using f5⟩
theorem own_str_one {Z : State} {h : Heap} {r : Addr} {b c0 c1 : Int32} (F : own_str Z h r b c0 c1) (q : b = (0 : Int32)) : ∃ (t : Addr) (k : ClassId), Exa Z h r "java/lang/String" ∧ Fld Z h r "java/lang/String" "coder" "B" (.int (0 : Int32)) ∧ Fld Z h r "java/lang/String" "value" "[B" (.ref t) ∧ Arv Z h t k .byte (1 : Int32) [(.int c0)] (.int (0 : Int32)) := by
  obtain ⟨t, k, n, f1, f2, f3, f4, f5⟩ := F
  rw [if_pos q] at f5
  subst f5
  exact ⟨t, k, f1, f2, f3, by simpa [own_cs, q] using f4⟩
theorem own_str_two {Z : State} {h : Heap} {r : Addr} {b c0 c1 : Int32} (F : own_str Z h r b c0 c1) (q : ¬ b = (0 : Int32)) : ∃ (t : Addr) (k : ClassId), Exa Z h r "java/lang/String" ∧ Fld Z h r "java/lang/String" "coder" "B" (.int (0 : Int32)) ∧ Fld Z h r "java/lang/String" "value" "[B" (.ref t) ∧ Arv Z h t k .byte (2 : Int32) [(.int c0), (.int c1)] (.int (0 : Int32)) := by
  obtain ⟨t, k, n, f1, f2, f3, f4, f5⟩ := F
  rw [if_neg q] at f5
  subst f5
  exact ⟨t, k, f1, f2, f3, by simpa [own_cs, q] using f4⟩
theorem own_ext_trans {h h' h'' : Heap} (E : Ext h h') (E' : Ext h' h'') : Ext h h'' := ⟨Nat.le_trans E.1 E'.1, fun a c q => E'.2 a c (E.2 a c q)⟩
theorem own_ext_wr {h h' h'' : Heap} {a : Addr} {sl : Nat} {v : Value} (E : Ext h h') (W : Wr h' h'' a sl v) (q : h.size ≤ a) : Ext h h'' := by
  refine ⟨Nat.le_trans E.1 (Nat.le_of_eq W.size.symm), fun b c hb => ?_⟩
  have hlt := (Array.getElem?_eq_some_iff.mp hb).1
  obtain ⟨c', e1, -, -, -, e5, -⟩ := wr_at W (E.2 b c hb)
  rw [e1, e5 (Nat.ne_of_lt (Nat.lt_of_lt_of_le hlt q))]
theorem own_ext_keep {h h' h'' : Heap} {ws : List Addr} (E : Ext h h') (K : Keep h' h'' ws) (q : ∀ x ∈ ws, h.size ≤ x) : Ext h h'' :=
  ⟨Nat.le_trans E.1 K.1, fun b c hb => K.2.1 b c (E.2 b c hb) fun hm => absurd (q b hm) (Nat.not_le.mpr (Array.getElem?_eq_some_iff.mp hb).1)⟩
theorem own_ext_keep0 {h h' : Heap} (K : Keep h h' []) : Ext h h' := ⟨K.1, fun b c hb => K.2.1 b c hb List.not_mem_nil⟩
theorem own_fldcast {Z : State} {h : Heap} {a : Addr} {C n d : String} {x y : Int32} (F : Fld Z h a C n d (.int x)) (q : x = y) : Fld Z h a C n d (.int y) := q ▸ F
theorem own_str_lt {Z : State} {h : Heap} {r : Addr} {b c0 c1 : Int32} (F : own_str Z h r b c0 c1) : r < h.size := by
  obtain ⟨t, k, n, f1, -⟩ := F
  exact f1.lt
def own_u8 (c : Int32) : Prop := ¬ c < (0 : Int32) ∧ ¬ (255 : Int32) < c
def own_x0 (p : Int32) : Int32 := if (((p.toUInt32 >>> ((16 : Int32) &&& 31).toUInt32).toInt32) &&& (1 : Int32)) = (0 : Int32) then (0 : Int32) else (((p.toUInt32 >>> ((17 : Int32) &&& 31).toUInt32).toInt32) &&& (255 : Int32))
def own_x1 (p : Int32) : Int32 := if (((p.toUInt32 >>> ((16 : Int32) &&& 31).toUInt32).toInt32) &&& (1 : Int32)) = (0 : Int32) then (0 : Int32) else (((p.toUInt32 >>> ((25 : Int32) &&& 31).toUInt32).toInt32) &&& (127 : Int32))
def own_same (p q : Int32) : Int32 := if (q &&& (1 : Int32)) = (0 : Int32) then (if (q &&& (2 : Int32)) = (0 : Int32) then (if own_x0 p = (0 : Int32) then (1 : Int32) else (0 : Int32)) else (0 : Int32)) else (if (q &&& (2 : Int32)) = (0 : Int32) then (0 : Int32) else (if own_x0 p = (0 : Int32) then (if own_x1 p = (0 : Int32) then (1 : Int32) else (0 : Int32)) else (0 : Int32)))
theorem own_mask3 (x : Int32) : (x &&& (3 : Int32)) = (0 : Int32) ∨ (x &&& (3 : Int32)) = (1 : Int32) ∨ (x &&& (3 : Int32)) = (2 : Int32) ∨ (x &&& (3 : Int32)) = (3 : Int32) := by
  have e : (x &&& 3).toInt = x.toInt % 2 ^ 2 := Jvm.Kit.i32_mask x 3 (k := 2) (by decide) (by decide)
  have h : (x &&& 3).toInt = 0 ∨ (x &&& 3).toInt = 1 ∨ (x &&& 3).toInt = 2 ∨ (x &&& 3).toInt = 3 := by omega
  rcases h with h | h | h | h
  · exact Or.inl (Int32.toInt_inj.mp h)
  · exact Or.inr (Or.inl (Int32.toInt_inj.mp h))
  · exact Or.inr (Or.inr (Or.inl (Int32.toInt_inj.mp h)))
  · exact Or.inr (Or.inr (Or.inr (Int32.toInt_inj.mp h)))
theorem own_arv0 {args : Array Value} {s : State} {a : Addr} {t : Term} {ty : FieldType} {dv : Value} (hf : Fit s) (ev : t.eval args s none [] s = some (.ref a)) (h1 : (Jvm.Cond.arrayOf t ty).value args s none s [] = some true)
    (h2 : (Jvm.Cond.eq (Term.length t) (Term.int (0 : Int32))).value args s none s [] = some true) : ∃ k : ClassId, Arv s s.heap a k ty (0 : Int32) [] dv := by
  obtain ⟨cl, A⟩ := Arr.start ev h1
  obtain ⟨z1, z2⟩ := Jvm.Free.IntBox.length_fwd (args := args) (Cond.before_iff.mpr h2) ev A.1 A.2.1 A.2.2
  exact ⟨cl.cls, Arv.start hf A z1 z2 (by decide) (by decide) trivial⟩
def own_bit (d : Int32) : Prop := d = (0 : Int32) ∨ d = (1 : Int32)
def own_dif (d q : Int32) : Int32 := if q = (0 : Int32) then (1 : Int32) else d
theorem own_dif0 {d q : Int32} (h : q = (0 : Int32)) : own_dif d q = (1 : Int32) := if_pos h
theorem own_dif1 {d q : Int32} (h : ¬ q = (0 : Int32)) : own_dif d q = d := if_neg h
theorem own_str_exa {Z : State} {h : Heap} {r : Addr} {b c0 c1 : Int32} (F : own_str Z h r b c0 c1) : Exa Z h r "java/lang/String" := by
  obtain ⟨t, k, n, f1, -⟩ := F
  exact f1
theorem own_u8_toInt {c : Int32} : own_u8 c ↔ (0 ≤ c.toInt ∧ c.toInt ≤ 255) := by
  unfold own_u8
  rw [Int32.lt_iff_toInt_lt, Int32.lt_iff_toInt_lt]
  have a : ((0 : Int32)).toInt = 0 := by decide
  have b : ((255 : Int32)).toInt = 255 := by decide
  omega
theorem own_u8_nat {c : Int32} (u : own_u8 c) : ∃ k : Fin 256, c = Int32.ofNat k := by
  have h := own_u8_toInt.mp u
  refine ⟨⟨c.toInt.toNat, by omega⟩, Int32.toInt_inj.mp ?_⟩
  have e : (Int32.ofNat c.toInt.toNat).toInt = c.toInt.toNat := Int32.toInt_ofNat_of_lt (by omega)
  show c.toInt = (Int32.ofNat c.toInt.toNat).toInt
  rw [e]
  omega
theorem own_u8_mask (x : Int32) : own_u8 (x &&& (255 : Int32)) := by
  have e : (x &&& 255).toInt = x.toInt % 2 ^ 8 := Jvm.Kit.i32_mask x 255 (k := 8) (by decide) (by decide)
  exact own_u8_toInt.mpr (by omega)
theorem own_u8_mask7 (x : Int32) : own_u8 (x &&& (127 : Int32)) := by
  have e : (x &&& 127).toInt = x.toInt % 2 ^ 7 := Jvm.Kit.i32_mask x 127 (k := 7) (by decide) (by decide)
  exact own_u8_toInt.mpr (by omega)
theorem own_ch_all : ∀ k : Fin 256, nar .char ((Int32.ofNat k).toUInt32.toUInt16.toUInt32.toInt32) = Int32.ofNat k := by decide +kernel
theorem own_b_all : ∀ k : Fin 256, own_b (Int32.ofNat k) &&& 255 = Int32.ofNat k := by decide +kernel
theorem own_m_all : ∀ k : Fin 256, (Int32.ofNat k) &&& 255 = Int32.ofNat k := by decide +kernel
theorem own_ch255 {c : Int32} (u : own_u8 c) : ¬ (255 : Int32) < nar .char (c.toUInt32.toUInt16.toUInt32.toInt32) := by
  obtain ⟨k, rfl⟩ := own_u8_nat u
  rw [own_ch_all k]
  exact u.2
theorem own_b_inj {c d : Int32} (u : own_u8 c) (v : own_u8 d) (h : own_b c = own_b d) : c = d := by
  obtain ⟨k, rfl⟩ := own_u8_nat u
  obtain ⟨j, rfl⟩ := own_u8_nat v
  rw [← own_b_all k, h, own_b_all j]
theorem own_xor_mask (x y : Int32) : (x &&& 255) ^^^ (y &&& 255) = (x ^^^ y) &&& 255 := by
  apply Int32.toBitVec_inj.mp
  simp only [Int32.toBitVec_xor, Int32.toBitVec_and]
  ext i
  simp
  cases x.toBitVec[i] <;> cases y.toBitVec[i] <;> simp
theorem own_u8_xor {a b : Int32} (u : own_u8 a) (v : own_u8 b) : own_u8 (a ^^^ b) := by
  obtain ⟨k, rfl⟩ := own_u8_nat u
  obtain ⟨j, rfl⟩ := own_u8_nat v
  rw [← own_m_all k, ← own_m_all j, own_xor_mask]
  exact own_u8_mask _
theorem own_xor_self {a x : Int32} : a ^^^ x = a ↔ x = 0 := by
  constructor
  · intro h
    have : a ^^^ (a ^^^ x) = a ^^^ a := by rw [h]
    rwa [← Int32.xor_assoc, Int32.xor_self, Int32.zero_xor] at this
  · rintro rfl
    exact Int32.xor_zero
theorem own_u8_x0 (p : Int32) : own_u8 (own_x0 p) := by
  unfold own_x0
  split
  · exact ⟨by decide, by decide⟩
  · exact own_u8_mask _
theorem own_u8_x1 (p : Int32) : own_u8 (own_x1 p) := by
  unfold own_x1
  split
  · exact ⟨by decide, by decide⟩
  · exact own_u8_mask7 _
theorem own_u8_o0 (p : Int32) : own_u8 ((p &&& (255 : Int32)) ^^^ (own_x0 p)) := own_u8_xor (own_u8_mask _) (own_u8_x0 p)
theorem own_u8_o1 (p : Int32) : own_u8 ((((p.toUInt32 >>> ((8 : Int32) &&& 31).toUInt32).toInt32) &&& (255 : Int32)) ^^^ (own_x1 p)) := own_u8_xor (own_u8_mask _) (own_u8_x1 p)
theorem own_bx {a x : Int32} (u : own_u8 a) (v : own_u8 x) : own_b (a ^^^ x) = own_b a ↔ x = 0 := by
  constructor
  · intro h
    exact own_xor_self.mp (own_b_inj (own_u8_xor u v) u h)
  · rintro rfl
    rw [Int32.xor_zero]
theorem own_sync (p q : Int32) : (own_same p q = (0 : Int32) ∧ own_eqv (own_cs (q &&& (2 : Int32)) (own_b ((p &&& (255 : Int32)) ^^^ (own_x0 p))) (own_b ((((p.toUInt32 >>> ((8 : Int32) &&& 31).toUInt32).toInt32) &&& (255 : Int32)) ^^^ (own_x1 p)))) (own_cs (q &&& (1 : Int32)) (own_b (p &&& (255 : Int32))) (own_b (((p.toUInt32 >>> ((8 : Int32) &&& 31).toUInt32).toInt32) &&& (255 : Int32)))) = (0 : Int32)) ∨
    (¬ own_same p q = (0 : Int32) ∧ ¬ own_eqv (own_cs (q &&& (2 : Int32)) (own_b ((p &&& (255 : Int32)) ^^^ (own_x0 p))) (own_b ((((p.toUInt32 >>> ((8 : Int32) &&& 31).toUInt32).toInt32) &&& (255 : Int32)) ^^^ (own_x1 p)))) (own_cs (q &&& (1 : Int32)) (own_b (p &&& (255 : Int32))) (own_b (((p.toUInt32 >>> ((8 : Int32) &&& 31).toUInt32).toInt32) &&& (255 : Int32)))) = (0 : Int32)) := by
  have b0 := own_bx (own_u8_mask p) (own_u8_x0 p)
  have b1 := own_bx (own_u8_mask ((p.toUInt32 >>> ((8 : Int32) &&& 31).toUInt32).toInt32)) (own_u8_x1 p)
  generalize (p &&& (255 : Int32)) = c0 at *
  generalize (((p.toUInt32 >>> ((8 : Int32) &&& 31).toUInt32).toInt32) &&& (255 : Int32)) = c1 at *
  generalize hx0 : own_x0 p = x0 at *
  generalize hx1 : own_x1 p = x1 at *
  unfold own_same own_eqv own_cs
  rw [hx0, hx1]
  by_cases h1 : (q &&& (1 : Int32)) = (0 : Int32) <;> by_cases h2 : (q &&& (2 : Int32)) = (0 : Int32) <;> by_cases h3 : x0 = (0 : Int32) <;> by_cases h4 : x1 = (0 : Int32) <;> simp [h1, h2, h3, h4, b0, b1]
theorem pn_0 : plainName "com/example/homethread/homethread/cli/ScenarioReportExitStatusPinLaw" = true := by first | (simp [plainName, overriddenIn]; done) | decide +kernel
theorem ef_1 (m : MethodId) (x0 : Int32) : entryFrame m #[(.int x0)] 1 = mkF m 0 #[.val (.int x0)] [] := by first | (simp [entryFrame, mkF, argsToLocals, Value.category]; done) | rfl
theorem d10_0 : decode method_3_code 0 = .ok (.iload_n 0, 1) := by decide +kernel
theorem d10_1 : decode method_3_code 1 = .ok (.bipush 16, 2) := by decide +kernel
theorem d10_3 : decode method_3_code 3 = .ok (.iushr, 1) := by decide +kernel
theorem d10_4 : decode method_3_code 4 = .ok (.iconst 1, 1) := by decide +kernel
theorem d10_5 : decode method_3_code 5 = .ok (.iand, 1) := by decide +kernel
theorem d10_6 : decode method_3_code 6 = .ok (.ifCond .eq 14, 3) := by decide +kernel
theorem d10_20 : decode method_3_code 20 = .ok (.iconst 0, 1) := by decide +kernel
theorem d10_21 : decode method_3_code 21 = .ok (.ireturn, 1) := by decide +kernel
theorem d10_9 : decode method_3_code 9 = .ok (.iload_n 0, 1) := by decide +kernel
theorem d10_10 : decode method_3_code 10 = .ok (.bipush 17, 2) := by decide +kernel
theorem d10_12 : decode method_3_code 12 = .ok (.iushr, 1) := by decide +kernel
theorem d10_13 : decode method_3_code 13 = .ok (.sipush 255, 3) := by decide +kernel
theorem d10_16 : decode method_3_code 16 = .ok (.iand, 1) := by decide +kernel
theorem d10_17 : decode method_3_code 17 = .ok (.goto 4, 3) := by decide +kernel
def Q_x0 (Z : State) (xp : Int32) (h0 : Heap) (n0 : Nat) (v : Option Value) (h : Heap) (L : List Loc) : Prop := v = some (.int (own_x0 xp)) ∧ Fr n0 L ∧ h = h0
set_option maxRecDepth 65536 in
set_option maxHeartbeats 40000000 in
theorem rm_x0 (l : Launch) (Z : State) (a0 : Array Value) (hw : ∀ d ∈ tables_1, d.before a0 Z = true) (ws : List Jvm.Cond) (xp : Int32) (h0 : Heap) (n0 : Nat) (O0 : Old Z n0 h0) :
    MetFree l (⟨"com/example/homethread/homethread/cli/ScenarioReportExitStatusPinLaw", "x0", "(I)I"⟩ : MethodName) (head1 (Jvm.Cond.code (⟨"com/example/homethread/homethread/cli/ScenarioReportExitStatusPinLaw", "x0", "(I)I"⟩ : MethodName) method_3_code 1 (some .int) :: ws) ({ frames := 0, cells := 0, slots := 0, locals := 0 } : Room)) (fun a U => a = #[(.int xp)] ∧ Z.Warmed39 U.vm ∧ U.heap = h0) (fun _ _ _ _ _ => True) (fun _ U o U' => ∃ v L, o = .returned v ∧ Q_x0 Z xp h0 n0 v U'.heap L ∧ FrameEnd U o U' L ({ frames := 0, cells := 0, slots := 0, locals := 0 } : Room).cells ({ frames := 0, cells := 0, slots := 0, locals := 0 } : Room).slots) := by
  refine MetFree.of_bodySF (plainFor_of_name pn_0) hisR ?_
  intro p e s m args below meth c s₁ Bd hml0 hP hK
  have W := fun {d : Jvm.Cond} (i : Nat) (q : tables_1[i]? = some d) => hw d (List.mem_of_getElem? q)
  obtain ⟨rfl, hZ, hh⟩ := hP
  have hx := Bd.exec
  have hby := Bd.bytes
  have hml : c.maxLocals = 1 := hml0
  have hown : s.vm.findClass "com/example/homethread/homethread/cli/ScenarioReportExitStatusPinLaw" = some m.cls := findClass_of_methodNamed Bd.named
  have hnm := (name_of_methodNamed Bd.named Bd.method).1
  have X0 : Stand p l e ({ frames := 0, cells := 0, slots := 0, locals := 0 } : Room) s m #[(.int xp)] below meth c s₁ [] 0 0 := Stand.of_body Bd
  have e0 : s₁.heap = h0 := by rw [← hh, Bd.state]; rfl
  have N0 := Fr.nil n0
  have pre0 : ∀ t, Steps p.tables e below (s₁.setTop (mkF m 0 #[iv xp] [])) t → Steps p.tables e below (s₁.setTop (entryFrame m #[(.int xp)] 1)) t := fun t k => castTop (ef_1 m xp) k
  have K0 : Keep h0 h0 [] := Keep.refl h0 []
  have pre1 : ∀ t, Steps p.tables e below (s₁.setTop (mkF m 6 #[iv xp] [(.int (((xp.toUInt32 >>> ((16 : Int32) &&& 31).toUInt32).toInt32) &&& (1 : Int32)))])) t → Steps p.tables e below (s₁.setTop (entryFrame m #[(.int xp)] 1)) t := fun t kt => by
    refine pre0 _ ?_
    show Steps p.tables e below (s₁.setTop (mkF m 0 #[iv xp] [])) _
    refine XS.iloadN X0.here hx rfl (hb hby d10_0) rfl ?_
    refine XS.bipush X0.here hx rfl (hb hby d10_1) ?_
    refine XS.iushr X0.here hx rfl (hb hby d10_3) rfl ?_
    refine XS.iconst X0.here hx rfl (hb hby d10_4) ?_
    refine XS.iand X0.here hx rfl (hb hby d10_5) rfl ?_
    exact kt
  by_cases hc2 : (((xp.toUInt32 >>> ((16 : Int32) &&& 31).toUInt32).toInt32) &&& (1 : Int32)) = (0 : Int32)
  · have pre3 : ∀ t, Steps p.tables e below (s₁.setTop (mkF m 21 #[iv xp] [(.int (0 : Int32))])) t → Steps p.tables e below (s₁.setTop (entryFrame m #[(.int xp)] 1)) t := fun t kt => by
      refine pre1 _ ?_
      show Steps p.tables e below (s₁.setTop (mkF m 6 #[iv xp] [(.int (((xp.toUInt32 >>> ((16 : Int32) &&& 31).toUInt32).toInt32) &&& (1 : Int32)))])) _
      refine XS.ifYes X0.here hx rfl (pc0 := 6) (pc' := 20) rfl (hb hby d10_6) rfl (XT.i0_eq_t hc2) (by decide) (by decide) ?_
      refine XS.iconst X0.here hx rfl (hb hby d10_20) ?_
      exact kt
    -- returns (.int (0 : Int32)), wanted (.int (own_x0 xp))
    obtain ⟨fs, hr, hrun, hended, hW, hsame⟩ := X0.leave (v := some (.int (0 : Int32))) (fun h => by rw [Bd.returns] at h; cases h)
    refine ⟨_, _, pre3 _ (retI X0 hx Bd.returns (hb hby d10_21) hr), hrun, hended, _, _, rfl, ?_, ⟨_, rfl⟩, hW, hsame.mono (by decide) (by decide)⟩
    show Q_x0 Z xp h0 n0 _ s₁.heap _
    rw [e0]
    exact ⟨(congrArg (fun z => some (Value.int z)) (if_pos hc2).symm), N0, rfl⟩
  · have pre4 : ∀ t, Steps p.tables e below (s₁.setTop (mkF m 21 #[iv xp] [(.int (((xp.toUInt32 >>> ((17 : Int32) &&& 31).toUInt32).toInt32) &&& (255 : Int32)))])) t → Steps p.tables e below (s₁.setTop (entryFrame m #[(.int xp)] 1)) t := fun t kt => by
      refine pre1 _ ?_
      show Steps p.tables e below (s₁.setTop (mkF m 6 #[iv xp] [(.int (((xp.toUInt32 >>> ((16 : Int32) &&& 31).toUInt32).toInt32) &&& (1 : Int32)))])) _
      refine XS.ifNo X0.here hx rfl (hb hby d10_6) rfl (XT.i0_eq_f hc2) ?_
      refine XS.iloadN X0.here hx rfl (hb hby d10_9) rfl ?_
      refine XS.bipush X0.here hx rfl (hb hby d10_10) ?_
      refine XS.iushr X0.here hx rfl (hb hby d10_12) rfl ?_
      refine XS.sipush X0.here hx rfl (hb hby d10_13) ?_
      refine XS.iand X0.here hx rfl (hb hby d10_16) rfl ?_
      refine XS.goto X0.here hx rfl (pc0 := 17) (pc' := 21) rfl (hb hby d10_17) (by decide) (by decide) ?_
      exact kt
    -- returns (.int (((xp.toUInt32 >>> ((17 : Int32) &&& 31).toUInt32).toInt32) &&& (255 : Int32))), wanted (.int (own_x0 xp))
    obtain ⟨fs, hr, hrun, hended, hW, hsame⟩ := X0.leave (v := some (.int (((xp.toUInt32 >>> ((17 : Int32) &&& 31).toUInt32).toInt32) &&& (255 : Int32)))) (fun h => by rw [Bd.returns] at h; cases h)
    refine ⟨_, _, pre4 _ (retI X0 hx Bd.returns (hb hby d10_21) hr), hrun, hended, _, _, rfl, ?_, ⟨_, rfl⟩, hW, hsame.mono (by decide) (by decide)⟩
    show Q_x0 Z xp h0 n0 _ s₁.heap _
    rw [e0]
    exact ⟨(congrArg (fun z => some (Value.int z)) (if_neg hc2).symm), N0, rfl⟩
theorem ef_2 (m : MethodId) (x0 : Int32) : entryFrame m #[(.int x0)] 1 = mkF m 0 #[.val (.int x0)] [] := by first | (simp [entryFrame, mkF, argsToLocals, Value.category]; done) | rfl
theorem d11_0 : decode method_4_code 0 = .ok (.iload_n 0, 1) := by decide +kernel
theorem d11_1 : decode method_4_code 1 = .ok (.bipush 16, 2) := by decide +kernel
theorem d11_3 : decode method_4_code 3 = .ok (.iushr, 1) := by decide +kernel
theorem d11_4 : decode method_4_code 4 = .ok (.iconst 1, 1) := by decide +kernel
theorem d11_5 : decode method_4_code 5 = .ok (.iand, 1) := by decide +kernel
theorem d11_6 : decode method_4_code 6 = .ok (.ifCond .eq 13, 3) := by decide +kernel
theorem d11_19 : decode method_4_code 19 = .ok (.iconst 0, 1) := by decide +kernel
theorem d11_20 : decode method_4_code 20 = .ok (.ireturn, 1) := by decide +kernel
theorem d11_9 : decode method_4_code 9 = .ok (.iload_n 0, 1) := by decide +kernel
theorem d11_10 : decode method_4_code 10 = .ok (.bipush 25, 2) := by decide +kernel
theorem d11_12 : decode method_4_code 12 = .ok (.iushr, 1) := by decide +kernel
theorem d11_13 : decode method_4_code 13 = .ok (.bipush 127, 2) := by decide +kernel
theorem d11_15 : decode method_4_code 15 = .ok (.iand, 1) := by decide +kernel
theorem d11_16 : decode method_4_code 16 = .ok (.goto 4, 3) := by decide +kernel
def Q_x1 (Z : State) (xp : Int32) (h0 : Heap) (n0 : Nat) (v : Option Value) (h : Heap) (L : List Loc) : Prop := v = some (.int (own_x1 xp)) ∧ Fr n0 L ∧ h = h0
set_option maxRecDepth 65536 in
set_option maxHeartbeats 40000000 in
theorem rm_x1 (l : Launch) (Z : State) (a0 : Array Value) (hw : ∀ d ∈ tables_1, d.before a0 Z = true) (ws : List Jvm.Cond) (xp : Int32) (h0 : Heap) (n0 : Nat) (O0 : Old Z n0 h0) :
    MetFree l (⟨"com/example/homethread/homethread/cli/ScenarioReportExitStatusPinLaw", "x1", "(I)I"⟩ : MethodName) (head1 (Jvm.Cond.code (⟨"com/example/homethread/homethread/cli/ScenarioReportExitStatusPinLaw", "x1", "(I)I"⟩ : MethodName) method_4_code 1 (some .int) :: ws) ({ frames := 0, cells := 0, slots := 0, locals := 0 } : Room)) (fun a U => a = #[(.int xp)] ∧ Z.Warmed39 U.vm ∧ U.heap = h0) (fun _ _ _ _ _ => True) (fun _ U o U' => ∃ v L, o = .returned v ∧ Q_x1 Z xp h0 n0 v U'.heap L ∧ FrameEnd U o U' L ({ frames := 0, cells := 0, slots := 0, locals := 0 } : Room).cells ({ frames := 0, cells := 0, slots := 0, locals := 0 } : Room).slots) := by
  refine MetFree.of_bodySF (plainFor_of_name pn_0) hisR ?_
  intro p e s m args below meth c s₁ Bd hml0 hP hK
  have W := fun {d : Jvm.Cond} (i : Nat) (q : tables_1[i]? = some d) => hw d (List.mem_of_getElem? q)
  obtain ⟨rfl, hZ, hh⟩ := hP
  have hx := Bd.exec
  have hby := Bd.bytes
  have hml : c.maxLocals = 1 := hml0
  have hown : s.vm.findClass "com/example/homethread/homethread/cli/ScenarioReportExitStatusPinLaw" = some m.cls := findClass_of_methodNamed Bd.named
  have hnm := (name_of_methodNamed Bd.named Bd.method).1
  have X0 : Stand p l e ({ frames := 0, cells := 0, slots := 0, locals := 0 } : Room) s m #[(.int xp)] below meth c s₁ [] 0 0 := Stand.of_body Bd
  have e0 : s₁.heap = h0 := by rw [← hh, Bd.state]; rfl
  have N0 := Fr.nil n0
  have pre0 : ∀ t, Steps p.tables e below (s₁.setTop (mkF m 0 #[iv xp] [])) t → Steps p.tables e below (s₁.setTop (entryFrame m #[(.int xp)] 1)) t := fun t k => castTop (ef_2 m xp) k
  have K0 : Keep h0 h0 [] := Keep.refl h0 []
  have pre5 : ∀ t, Steps p.tables e below (s₁.setTop (mkF m 6 #[iv xp] [(.int (((xp.toUInt32 >>> ((16 : Int32) &&& 31).toUInt32).toInt32) &&& (1 : Int32)))])) t → Steps p.tables e below (s₁.setTop (entryFrame m #[(.int xp)] 1)) t := fun t kt => by
    refine pre0 _ ?_
    show Steps p.tables e below (s₁.setTop (mkF m 0 #[iv xp] [])) _
    refine XS.iloadN X0.here hx rfl (hb hby d11_0) rfl ?_
    refine XS.bipush X0.here hx rfl (hb hby d11_1) ?_
    refine XS.iushr X0.here hx rfl (hb hby d11_3) rfl ?_
    refine XS.iconst X0.here hx rfl (hb hby d11_4) ?_
    refine XS.iand X0.here hx rfl (hb hby d11_5) rfl ?_
    exact kt
  by_cases hc6 : (((xp.toUInt32 >>> ((16 : Int32) &&& 31).toUInt32).toInt32) &&& (1 : Int32)) = (0 : Int32)
  · have pre7 : ∀ t, Steps p.tables e below (s₁.setTop (mkF m 20 #[iv xp] [(.int (0 : Int32))])) t → Steps p.tables e below (s₁.setTop (entryFrame m #[(.int xp)] 1)) t := fun t kt => by
      refine pre5 _ ?_
      show Steps p.tables e below (s₁.setTop (mkF m 6 #[iv xp] [(.int (((xp.toUInt32 >>> ((16 : Int32) &&& 31).toUInt32).toInt32) &&& (1 : Int32)))])) _
      refine XS.ifYes X0.here hx rfl (pc0 := 6) (pc' := 19) rfl (hb hby d11_6) rfl (XT.i0_eq_t hc6) (by decide) (by decide) ?_
      refine XS.iconst X0.here hx rfl (hb hby d11_19) ?_
      exact kt
    -- returns (.int (0 : Int32)), wanted (.int (own_x1 xp))
    obtain ⟨fs, hr, hrun, hended, hW, hsame⟩ := X0.leave (v := some (.int (0 : Int32))) (fun h => by rw [Bd.returns] at h; cases h)
    refine ⟨_, _, pre7 _ (retI X0 hx Bd.returns (hb hby d11_20) hr), hrun, hended, _, _, rfl, ?_, ⟨_, rfl⟩, hW, hsame.mono (by decide) (by decide)⟩
    show Q_x1 Z xp h0 n0 _ s₁.heap _
    rw [e0]
    exact ⟨(congrArg (fun z => some (Value.int z)) (if_pos hc6).symm), N0, rfl⟩
  · have pre8 : ∀ t, Steps p.tables e below (s₁.setTop (mkF m 20 #[iv xp] [(.int (((xp.toUInt32 >>> ((25 : Int32) &&& 31).toUInt32).toInt32) &&& (127 : Int32)))])) t → Steps p.tables e below (s₁.setTop (entryFrame m #[(.int xp)] 1)) t := fun t kt => by
      refine pre5 _ ?_
      show Steps p.tables e below (s₁.setTop (mkF m 6 #[iv xp] [(.int (((xp.toUInt32 >>> ((16 : Int32) &&& 31).toUInt32).toInt32) &&& (1 : Int32)))])) _
      refine XS.ifNo X0.here hx rfl (hb hby d11_6) rfl (XT.i0_eq_f hc6) ?_
      refine XS.iloadN X0.here hx rfl (hb hby d11_9) rfl ?_
      refine XS.bipush X0.here hx rfl (hb hby d11_10) ?_
      refine XS.iushr X0.here hx rfl (hb hby d11_12) rfl ?_
      refine XS.bipush X0.here hx rfl (hb hby d11_13) ?_
      refine XS.iand X0.here hx rfl (hb hby d11_15) rfl ?_
      refine XS.goto X0.here hx rfl (pc0 := 16) (pc' := 20) rfl (hb hby d11_16) (by decide) (by decide) ?_
      exact kt
    -- returns (.int (((xp.toUInt32 >>> ((25 : Int32) &&& 31).toUInt32).toInt32) &&& (127 : Int32))), wanted (.int (own_x1 xp))
    obtain ⟨fs, hr, hrun, hended, hW, hsame⟩ := X0.leave (v := some (.int (((xp.toUInt32 >>> ((25 : Int32) &&& 31).toUInt32).toInt32) &&& (127 : Int32)))) (fun h => by rw [Bd.returns] at h; cases h)
    refine ⟨_, _, pre8 _ (retI X0 hx Bd.returns (hb hby d11_20) hr), hrun, hended, _, _, rfl, ?_, ⟨_, rfl⟩, hW, hsame.mono (by decide) (by decide)⟩
    show Q_x1 Z xp h0 n0 _ s₁.heap _
    rw [e0]
    exact ⟨(congrArg (fun z => some (Value.int z)) (if_neg hc6).symm), N0, rfl⟩
theorem ef_3 (m : MethodId) (x0 : Int32) (x1 : Int32) : entryFrame m #[(.int x0), (.int x1)] 4 = mkF m 0 #[.val (.int x0), .val (.int x1), .unset, .unset] [] := by first | (simp [entryFrame, mkF, argsToLocals, Value.category]; done) | rfl
theorem d12_0 : decode method_7_code 0 = .ok (.iload_n 1, 1) := by decide +kernel
theorem d12_1 : decode method_7_code 1 = .ok (.iconst 1, 1) := by decide +kernel
theorem d12_2 : decode method_7_code 2 = .ok (.iand, 1) := by decide +kernel
theorem d12_3 : decode method_7_code 3 = .ok (.ifCond .eq 7, 3) := by decide +kernel
theorem d12_10 : decode method_7_code 10 = .ok (.iconst 0, 1) := by decide +kernel
theorem d12_11 : decode method_7_code 11 = .ok (.istore_n 2, 1) := by decide +kernel
theorem d12_12 : decode method_7_code 12 = .ok (.iload_n 1, 1) := by decide +kernel
theorem d12_13 : decode method_7_code 13 = .ok (.iconst 2, 1) := by decide +kernel
theorem d12_14 : decode method_7_code 14 = .ok (.iand, 1) := by decide +kernel
theorem d12_15 : decode method_7_code 15 = .ok (.ifCond .eq 7, 3) := by decide +kernel
theorem d12_22 : decode method_7_code 22 = .ok (.iconst 0, 1) := by decide +kernel
theorem d12_23 : decode method_7_code 23 = .ok (.istore_n 3, 1) := by decide +kernel
theorem d12_24 : decode method_7_code 24 = .ok (.iload_n 2, 1) := by decide +kernel
theorem d12_25 : decode method_7_code 25 = .ok (.iload_n 3, 1) := by decide +kernel
theorem d12_26 : decode method_7_code 26 = .ok (.if_icmp .ne 25, 3) := by decide +kernel
theorem d12_29 : decode method_7_code 29 = .ok (.iload_n 0, 1) := by decide +kernel
theorem d12_30 : decode method_7_code 30 = .ok (.invokestatic 18, 3) := by decide +kernel
theorem pd_4 : parseMethodDescriptor "(I)I" = some ⟨[.int], some .int⟩ := by decide +kernel
theorem d12_33 : decode method_7_code 33 = .ok (.ifCond .ne 18, 3) := by decide +kernel
theorem d12_36 : decode method_7_code 36 = .ok (.iload_n 2, 1) := by decide +kernel
theorem d12_37 : decode method_7_code 37 = .ok (.ifCond .eq 10, 3) := by decide +kernel
theorem d12_47 : decode method_7_code 47 = .ok (.iconst 1, 1) := by decide +kernel
theorem d12_48 : decode method_7_code 48 = .ok (.goto 4, 3) := by decide +kernel
theorem d12_52 : decode method_7_code 52 = .ok (.ireturn, 1) := by decide +kernel
theorem d12_51 : decode method_7_code 51 = .ok (.iconst 0, 1) := by decide +kernel
theorem d12_18 : decode method_7_code 18 = .ok (.iconst 1, 1) := by decide +kernel
theorem d12_19 : decode method_7_code 19 = .ok (.goto 4, 3) := by decide +kernel
theorem d12_6 : decode method_7_code 6 = .ok (.iconst 1, 1) := by decide +kernel
theorem d12_7 : decode method_7_code 7 = .ok (.goto 4, 3) := by decide +kernel
theorem d12_40 : decode method_7_code 40 = .ok (.iload_n 0, 1) := by decide +kernel
theorem d12_41 : decode method_7_code 41 = .ok (.invokestatic 22, 3) := by decide +kernel
theorem d12_44 : decode method_7_code 44 = .ok (.ifCond .ne 7, 3) := by decide +kernel
def Q_same (Z : State) (xp : Int32) (xl : Int32) (h0 : Heap) (n0 : Nat) (v : Option Value) (h : Heap) (L : List Loc) : Prop := v = some (.int (own_same xp xl)) ∧ Fr n0 L ∧ h = h0
set_option maxRecDepth 65536 in
set_option maxHeartbeats 40000000 in
theorem rm_same (l : Launch) (Z : State) (a0 : Array Value) (hw : ∀ d ∈ tables_1, d.before a0 Z = true) (ws : List Jvm.Cond) (xp : Int32) (xl : Int32) (h0 : Heap) (n0 : Nat) (O0 : Old Z n0 h0) :
    MetFree l (⟨"com/example/homethread/homethread/cli/ScenarioReportExitStatusPinLaw", "same", "(II)Z"⟩ : MethodName) (head1 (Jvm.Cond.code (⟨"com/example/homethread/homethread/cli/ScenarioReportExitStatusPinLaw", "same", "(II)Z"⟩ : MethodName) method_7_code 4 (some .boolean) :: ws) ({ frames := 1, cells := 0, slots := 0, locals := 12 } : Room)) (fun a U => a = #[(.int xp), (.int xl)] ∧ Z.Warmed39 U.vm ∧ U.heap = h0) (fun _ _ _ _ _ => True) (fun _ U o U' => ∃ v L, o = .returned v ∧ Q_same Z xp xl h0 n0 v U'.heap L ∧ FrameEnd U o U' L ({ frames := 1, cells := 0, slots := 0, locals := 12 } : Room).cells ({ frames := 1, cells := 0, slots := 0, locals := 12 } : Room).slots) := by
  refine MetFree.of_bodySF (plainFor_of_name pn_0) hisR ?_
  intro p e s m args below meth c s₁ Bd hml0 hP hK
  have W := fun {d : Jvm.Cond} (i : Nat) (q : tables_1[i]? = some d) => hw d (List.mem_of_getElem? q)
  obtain ⟨rfl, hZ, hh⟩ := hP
  have hx := Bd.exec
  have hby := Bd.bytes
  have hml : c.maxLocals = 4 := hml0
  have hown : s.vm.findClass "com/example/homethread/homethread/cli/ScenarioReportExitStatusPinLaw" = some m.cls := findClass_of_methodNamed Bd.named
  have hnm := (name_of_methodNamed Bd.named Bd.method).1
  have X0 : Stand p l e ({ frames := 1, cells := 0, slots := 0, locals := 12 } : Room) s m #[(.int xp), (.int xl)] below meth c s₁ [] 0 0 := Stand.of_body Bd
  have e0 : s₁.heap = h0 := by rw [← hh, Bd.state]; rfl
  have N0 := Fr.nil n0
  have pre0 : ∀ t, Steps p.tables e below (s₁.setTop (mkF m 0 #[iv xp, iv xl, .unset, .unset] [])) t → Steps p.tables e below (s₁.setTop (entryFrame m #[(.int xp), (.int xl)] 4)) t := fun t k => castTop (ef_3 m xp xl) k
  have K0 : Keep h0 h0 [] := Keep.refl h0 []
  have pre9 : ∀ t, Steps p.tables e below (s₁.setTop (mkF m 3 #[iv xp, iv xl, .unset, .unset] [(.int (xl &&& (1 : Int32)))])) t → Steps p.tables e below (s₁.setTop (entryFrame m #[(.int xp), (.int xl)] 4)) t := fun t kt => by
    refine pre0 _ ?_
    show Steps p.tables e below (s₁.setTop (mkF m 0 #[iv xp, iv xl, .unset, .unset] [])) _
    refine XS.iloadN X0.here hx rfl (hb hby d12_0) rfl ?_
    refine XS.iconst X0.here hx rfl (hb hby d12_1) ?_
    refine XS.iand X0.here hx rfl (hb hby d12_2) rfl ?_
    exact kt
  by_cases hc10 : (xl &&& (1 : Int32)) = (0 : Int32)
  · have pre11 : ∀ t, Steps p.tables e below (s₁.setTop (mkF m 15 #[iv xp, iv xl, iv (0 : Int32), .unset] [(.int (xl &&& (2 : Int32)))])) t → Steps p.tables e below (s₁.setTop (entryFrame m #[(.int xp), (.int xl)] 4)) t := fun t kt => by
      refine pre9 _ ?_
      show Steps p.tables e below (s₁.setTop (mkF m 3 #[iv xp, iv xl, .unset, .unset] [(.int (xl &&& (1 : Int32)))])) _
      refine XS.ifYes X0.here hx rfl (pc0 := 3) (pc' := 10) rfl (hb hby d12_3) rfl (XT.i0_eq_t hc10) (by decide) (by decide) ?_
      refine XS.iconst X0.here hx rfl (hb hby d12_10) ?_
      refine XS.istoreN X0.here hx rfl (hb hby d12_11) rfl (l' := #[iv xp, iv xl, iv (0 : Int32), .unset]) rfl ?_
      refine XS.iloadN X0.here hx rfl (hb hby d12_12) rfl ?_
      refine XS.iconst X0.here hx rfl (hb hby d12_13) ?_
      refine XS.iand X0.here hx rfl (hb hby d12_14) rfl ?_
      exact kt
    by_cases hc12 : (xl &&& (2 : Int32)) = (0 : Int32)
    · have pre13 : ∀ t, Steps p.tables e below (s₁.setTop (mkF m 30 #[iv xp, iv xl, iv (0 : Int32), iv (0 : Int32)] [(.int xp)])) t → Steps p.tables e below (s₁.setTop (entryFrame m #[(.int xp), (.int xl)] 4)) t := fun t kt => by
        refine pre11 _ ?_
        show Steps p.tables e below (s₁.setTop (mkF m 15 #[iv xp, iv xl, iv (0 : Int32), .unset] [(.int (xl &&& (2 : Int32)))])) _
        refine XS.ifYes X0.here hx rfl (pc0 := 15) (pc' := 22) rfl (hb hby d12_15) rfl (XT.i0_eq_t hc12) (by decide) (by decide) ?_
        refine XS.iconst X0.here hx rfl (hb hby d12_22) ?_
        refine XS.istoreN X0.here hx rfl (hb hby d12_23) rfl (l' := #[iv xp, iv xl, iv (0 : Int32), iv (0 : Int32)]) rfl ?_
        refine XS.iloadN X0.here hx rfl (hb hby d12_24) rfl ?_
        refine XS.iloadN X0.here hx rfl (hb hby d12_25) rfl ?_
        refine XS.icmpNo X0.here hx rfl (hb hby d12_26) rfl (XT.ii_ne_f (by decide)) ?_
        refine XS.iloadN X0.here hx rfl (hb hby d12_29) rfl ?_
        exact kt
      obtain ⟨_, _, ⟨T14, L14, k14, n14⟩, -, X14, ⟨Lc14, hQ14, l14, y14, z14⟩, st14⟩ := Jvm.LawKit.callS X0 hx (y := (⟨"com/example/homethread/homethread/cli/ScenarioReportExitStatusPinLaw", "x0", "(I)I"⟩ : MethodName)) hown (mvT hZ (W 40 rfl)) (mvT hZ (W 41 rfl)) (mvT hZ (W 2 rfl)) (mvT hZ (W 42 rfl)) (by decide) (backOf (W := 0) (rm_x0 l Z a0 hw [] xp h0 n0 O0) hZ (W 42 rfl) (W 2 rfl) (by decide) (by decide)) (g := (mkF m 30 #[iv xp, iv xl, iv (0 : Int32), iv (0 : Int32)] [(.int xp)])) rfl (by rw [hml]; rfl) (argsL := [(.int xp)]) (rest := []) (lenOf pd_4 rfl) rfl (by show 2 * 0 + _ ≤ _; exact Nat.le_of_eq rfl) (hb hby d12_30) (fun _ _ => ⟨rfl, e0, (by decide : 0 + 0 ≤ _), (by decide : 0 + 0 ≤ _)⟩)
      dsimp only [Pt.U, Pt.locs, Pt.cells, Pt.slots] at X14 l14 y14 z14 st14 hQ14
      replace l14 := l14.symm
      replace y14 : 0 = k14 := y14.symm
      replace z14 : 0 = n14 := z14.symm
      subst l14 y14 z14
      obtain ⟨rfl, M14, e14⟩ := hQ14
      have N14 := Fr.app N0 M14
      have pre15 : ∀ t, Steps p.tables e below (T14.setTop (mkF m 33 #[iv xp, iv xl, iv (0 : Int32), iv (0 : Int32)] [(.int (own_x0 xp))])) t → Steps p.tables e below (s₁.setTop (entryFrame m #[(.int xp), (.int xl)] 4)) t := fun t kt => pre13 _ (st14 _ kt)
      by_cases hc16 : (own_x0 xp) = (0 : Int32)
      · have pre17 : ∀ t, Steps p.tables e below (T14.setTop (mkF m 52 #[iv xp, iv xl, iv (0 : Int32), iv (0 : Int32)] [(.int (1 : Int32))])) t → Steps p.tables e below (s₁.setTop (entryFrame m #[(.int xp), (.int xl)] 4)) t := fun t kt => by
          refine pre15 _ ?_
          show Steps p.tables e below (T14.setTop (mkF m 33 #[iv xp, iv xl, iv (0 : Int32), iv (0 : Int32)] [(.int (own_x0 xp))])) _
          refine XS.ifNo X14.here hx rfl (hb hby d12_33) rfl (XT.i0_ne_f hc16) ?_
          refine XS.iloadN X14.here hx rfl (hb hby d12_36) rfl ?_
          refine XS.ifYes X14.here hx rfl (pc0 := 37) (pc' := 47) rfl (hb hby d12_37) rfl (XT.i0_eq_t (by decide)) (by decide) (by decide) ?_
          refine XS.iconst X14.here hx rfl (hb hby d12_47) ?_
          refine XS.goto X14.here hx rfl (pc0 := 48) (pc' := 52) rfl (hb hby d12_48) (by decide) (by decide) ?_
          exact kt
        -- returns (.int (1 : Int32)), wanted (.int (own_same xp xl))
        obtain ⟨fs, hr, hrun, hended, hW, hsame⟩ := X14.leave (v := some (.int (1 : Int32))) (fun h => by rw [Bd.returns] at h; cases h)
        refine ⟨_, _, pre17 _ (retN X14 hx (t := .boolean) Bd.returns (by simp) (hb hby d12_52) hr), hrun, hended, _, _, rfl, ?_, ⟨_, rfl⟩, hW, hsame.mono (by decide) (by decide)⟩
        show Q_same Z xp xl h0 n0 _ T14.heap _
        rw [e14]
        exact ⟨(congrArg (fun z => some (Value.int z)) ((if_pos hc10).trans ((if_pos hc12).trans (if_pos hc16))).symm), N14, rfl⟩
      · have pre18 : ∀ t, Steps p.tables e below (T14.setTop (mkF m 52 #[iv xp, iv xl, iv (0 : Int32), iv (0 : Int32)] [(.int (0 : Int32))])) t → Steps p.tables e below (s₁.setTop (entryFrame m #[(.int xp), (.int xl)] 4)) t := fun t kt => by
          refine pre15 _ ?_
          show Steps p.tables e below (T14.setTop (mkF m 33 #[iv xp, iv xl, iv (0 : Int32), iv (0 : Int32)] [(.int (own_x0 xp))])) _
          refine XS.ifYes X14.here hx rfl (pc0 := 33) (pc' := 51) rfl (hb hby d12_33) rfl (XT.i0_ne_t hc16) (by decide) (by decide) ?_
          refine XS.iconst X14.here hx rfl (hb hby d12_51) ?_
          exact kt
        -- returns (.int (0 : Int32)), wanted (.int (own_same xp xl))
        obtain ⟨fs, hr, hrun, hended, hW, hsame⟩ := X14.leave (v := some (.int (0 : Int32))) (fun h => by rw [Bd.returns] at h; cases h)
        refine ⟨_, _, pre18 _ (retN X14 hx (t := .boolean) Bd.returns (by simp) (hb hby d12_52) hr), hrun, hended, _, _, rfl, ?_, ⟨_, rfl⟩, hW, hsame.mono (by decide) (by decide)⟩
        show Q_same Z xp xl h0 n0 _ T14.heap _
        rw [e14]
        exact ⟨(congrArg (fun z => some (Value.int z)) ((if_pos hc10).trans ((if_pos hc12).trans (if_neg hc16))).symm), N14, rfl⟩
    · have pre19 : ∀ t, Steps p.tables e below (s₁.setTop (mkF m 52 #[iv xp, iv xl, iv (0 : Int32), iv (1 : Int32)] [(.int (0 : Int32))])) t → Steps p.tables e below (s₁.setTop (entryFrame m #[(.int xp), (.int xl)] 4)) t := fun t kt => by
        refine pre11 _ ?_
        show Steps p.tables e below (s₁.setTop (mkF m 15 #[iv xp, iv xl, iv (0 : Int32), .unset] [(.int (xl &&& (2 : Int32)))])) _
        refine XS.ifNo X0.here hx rfl (hb hby d12_15) rfl (XT.i0_eq_f hc12) ?_
        refine XS.iconst X0.here hx rfl (hb hby d12_18) ?_
        refine XS.goto X0.here hx rfl (pc0 := 19) (pc' := 23) rfl (hb hby d12_19) (by decide) (by decide) ?_
        refine XS.istoreN X0.here hx rfl (hb hby d12_23) rfl (l' := #[iv xp, iv xl, iv (0 : Int32), iv (1 : Int32)]) rfl ?_
        refine XS.iloadN X0.here hx rfl (hb hby d12_24) rfl ?_
        refine XS.iloadN X0.here hx rfl (hb hby d12_25) rfl ?_
        refine XS.icmpYes X0.here hx rfl (pc0 := 26) (pc' := 51) rfl (hb hby d12_26) rfl (XT.ii_ne_t (by decide)) (by decide) (by decide) ?_
        refine XS.iconst X0.here hx rfl (hb hby d12_51) ?_
        exact kt
      -- returns (.int (0 : Int32)), wanted (.int (own_same xp xl))
      obtain ⟨fs, hr, hrun, hended, hW, hsame⟩ := X0.leave (v := some (.int (0 : Int32))) (fun h => by rw [Bd.returns] at h; cases h)
      refine ⟨_, _, pre19 _ (retN X0 hx (t := .boolean) Bd.returns (by simp) (hb hby d12_52) hr), hrun, hended, _, _, rfl, ?_, ⟨_, rfl⟩, hW, hsame.mono (by decide) (by decide)⟩
      show Q_same Z xp xl h0 n0 _ s₁.heap _
      rw [e0]
      exact ⟨(congrArg (fun z => some (Value.int z)) ((if_pos hc10).trans (if_neg hc12)).symm), N0, rfl⟩
  · have pre20 : ∀ t, Steps p.tables e below (s₁.setTop (mkF m 15 #[iv xp, iv xl, iv (1 : Int32), .unset] [(.int (xl &&& (2 : Int32)))])) t → Steps p.tables e below (s₁.setTop (entryFrame m #[(.int xp), (.int xl)] 4)) t := fun t kt => by
      refine pre9 _ ?_
      show Steps p.tables e below (s₁.setTop (mkF m 3 #[iv xp, iv xl, .unset, .unset] [(.int (xl &&& (1 : Int32)))])) _
      refine XS.ifNo X0.here hx rfl (hb hby d12_3) rfl (XT.i0_eq_f hc10) ?_
      refine XS.iconst X0.here hx rfl (hb hby d12_6) ?_
      refine XS.goto X0.here hx rfl (pc0 := 7) (pc' := 11) rfl (hb hby d12_7) (by decide) (by decide) ?_
      refine XS.istoreN X0.here hx rfl (hb hby d12_11) rfl (l' := #[iv xp, iv xl, iv (1 : Int32), .unset]) rfl ?_
      refine XS.iloadN X0.here hx rfl (hb hby d12_12) rfl ?_
      refine XS.iconst X0.here hx rfl (hb hby d12_13) ?_
      refine XS.iand X0.here hx rfl (hb hby d12_14) rfl ?_
      exact kt
    by_cases hc21 : (xl &&& (2 : Int32)) = (0 : Int32)
    · have pre22 : ∀ t, Steps p.tables e below (s₁.setTop (mkF m 52 #[iv xp, iv xl, iv (1 : Int32), iv (0 : Int32)] [(.int (0 : Int32))])) t → Steps p.tables e below (s₁.setTop (entryFrame m #[(.int xp), (.int xl)] 4)) t := fun t kt => by
        refine pre20 _ ?_
        show Steps p.tables e below (s₁.setTop (mkF m 15 #[iv xp, iv xl, iv (1 : Int32), .unset] [(.int (xl &&& (2 : Int32)))])) _
        refine XS.ifYes X0.here hx rfl (pc0 := 15) (pc' := 22) rfl (hb hby d12_15) rfl (XT.i0_eq_t hc21) (by decide) (by decide) ?_
        refine XS.iconst X0.here hx rfl (hb hby d12_22) ?_
        refine XS.istoreN X0.here hx rfl (hb hby d12_23) rfl (l' := #[iv xp, iv xl, iv (1 : Int32), iv (0 : Int32)]) rfl ?_
        refine XS.iloadN X0.here hx rfl (hb hby d12_24) rfl ?_
        refine XS.iloadN X0.here hx rfl (hb hby d12_25) rfl ?_
        refine XS.icmpYes X0.here hx rfl (pc0 := 26) (pc' := 51) rfl (hb hby d12_26) rfl (XT.ii_ne_t (by decide)) (by decide) (by decide) ?_
        refine XS.iconst X0.here hx rfl (hb hby d12_51) ?_
        exact kt
      -- returns (.int (0 : Int32)), wanted (.int (own_same xp xl))
      obtain ⟨fs, hr, hrun, hended, hW, hsame⟩ := X0.leave (v := some (.int (0 : Int32))) (fun h => by rw [Bd.returns] at h; cases h)
      refine ⟨_, _, pre22 _ (retN X0 hx (t := .boolean) Bd.returns (by simp) (hb hby d12_52) hr), hrun, hended, _, _, rfl, ?_, ⟨_, rfl⟩, hW, hsame.mono (by decide) (by decide)⟩
      show Q_same Z xp xl h0 n0 _ s₁.heap _
      rw [e0]
      exact ⟨(congrArg (fun z => some (Value.int z)) ((if_neg hc10).trans (if_pos hc21)).symm), N0, rfl⟩
    · have pre23 : ∀ t, Steps p.tables e below (s₁.setTop (mkF m 30 #[iv xp, iv xl, iv (1 : Int32), iv (1 : Int32)] [(.int xp)])) t → Steps p.tables e below (s₁.setTop (entryFrame m #[(.int xp), (.int xl)] 4)) t := fun t kt => by
        refine pre20 _ ?_
        show Steps p.tables e below (s₁.setTop (mkF m 15 #[iv xp, iv xl, iv (1 : Int32), .unset] [(.int (xl &&& (2 : Int32)))])) _
        refine XS.ifNo X0.here hx rfl (hb hby d12_15) rfl (XT.i0_eq_f hc21) ?_
        refine XS.iconst X0.here hx rfl (hb hby d12_18) ?_
        refine XS.goto X0.here hx rfl (pc0 := 19) (pc' := 23) rfl (hb hby d12_19) (by decide) (by decide) ?_
        refine XS.istoreN X0.here hx rfl (hb hby d12_23) rfl (l' := #[iv xp, iv xl, iv (1 : Int32), iv (1 : Int32)]) rfl ?_
        refine XS.iloadN X0.here hx rfl (hb hby d12_24) rfl ?_
        refine XS.iloadN X0.here hx rfl (hb hby d12_25) rfl ?_
        refine XS.icmpNo X0.here hx rfl (hb hby d12_26) rfl (XT.ii_ne_f (by decide)) ?_
        refine XS.iloadN X0.here hx rfl (hb hby d12_29) rfl ?_
        exact kt
      obtain ⟨_, _, ⟨T24, L24, k24, n24⟩, -, X24, ⟨Lc24, hQ24, l24, y24, z24⟩, st24⟩ := Jvm.LawKit.callS X0 hx (y := (⟨"com/example/homethread/homethread/cli/ScenarioReportExitStatusPinLaw", "x0", "(I)I"⟩ : MethodName)) hown (mvT hZ (W 40 rfl)) (mvT hZ (W 41 rfl)) (mvT hZ (W 2 rfl)) (mvT hZ (W 42 rfl)) (by decide) (backOf (W := 0) (rm_x0 l Z a0 hw [] xp h0 n0 O0) hZ (W 42 rfl) (W 2 rfl) (by decide) (by decide)) (g := (mkF m 30 #[iv xp, iv xl, iv (1 : Int32), iv (1 : Int32)] [(.int xp)])) rfl (by rw [hml]; rfl) (argsL := [(.int xp)]) (rest := []) (lenOf pd_4 rfl) rfl (by show 2 * 0 + _ ≤ _; exact Nat.le_of_eq rfl) (hb hby d12_30) (fun _ _ => ⟨rfl, e0, (by decide : 0 + 0 ≤ _), (by decide : 0 + 0 ≤ _)⟩)
      dsimp only [Pt.U, Pt.locs, Pt.cells, Pt.slots] at X24 l24 y24 z24 st24 hQ24
      replace l24 := l24.symm
      replace y24 : 0 = k24 := y24.symm
      replace z24 : 0 = n24 := z24.symm
      subst l24 y24 z24
      obtain ⟨rfl, M24, e24⟩ := hQ24
      have N24 := Fr.app N0 M24
      have pre25 : ∀ t, Steps p.tables e below (T24.setTop (mkF m 33 #[iv xp, iv xl, iv (1 : Int32), iv (1 : Int32)] [(.int (own_x0 xp))])) t → Steps p.tables e below (s₁.setTop (entryFrame m #[(.int xp), (.int xl)] 4)) t := fun t kt => pre23 _ (st24 _ kt)
      by_cases hc26 : (own_x0 xp) = (0 : Int32)
      · have pre27 : ∀ t, Steps p.tables e below (T24.setTop (mkF m 41 #[iv xp, iv xl, iv (1 : Int32), iv (1 : Int32)] [(.int xp)])) t → Steps p.tables e below (s₁.setTop (entryFrame m #[(.int xp), (.int xl)] 4)) t := fun t kt => by
          refine pre25 _ ?_
          show Steps p.tables e below (T24.setTop (mkF m 33 #[iv xp, iv xl, iv (1 : Int32), iv (1 : Int32)] [(.int (own_x0 xp))])) _
          refine XS.ifNo X24.here hx rfl (hb hby d12_33) rfl (XT.i0_ne_f hc26) ?_
          refine XS.iloadN X24.here hx rfl (hb hby d12_36) rfl ?_
          refine XS.ifNo X24.here hx rfl (hb hby d12_37) rfl (XT.i0_eq_f (by decide)) ?_
          refine XS.iloadN X24.here hx rfl (hb hby d12_40) rfl ?_
          exact kt
        obtain ⟨_, _, ⟨T28, L28, k28, n28⟩, -, X28, ⟨Lc28, hQ28, l28, y28, z28⟩, st28⟩ := Jvm.LawKit.callS X24 hx (y := (⟨"com/example/homethread/homethread/cli/ScenarioReportExitStatusPinLaw", "x1", "(I)I"⟩ : MethodName)) hown (mvT hZ (W 43 rfl)) (mvT hZ (W 44 rfl)) (mvT hZ (W 2 rfl)) (mvT hZ (W 45 rfl)) (by decide) (backOf (W := 0) (rm_x1 l Z a0 hw [] xp h0 n0 O0) hZ (W 45 rfl) (W 2 rfl) (by decide) (by decide)) (g := (mkF m 41 #[iv xp, iv xl, iv (1 : Int32), iv (1 : Int32)] [(.int xp)])) rfl (by rw [hml]; rfl) (argsL := [(.int xp)]) (rest := []) (lenOf pd_4 rfl) rfl (by show 2 * 0 + _ ≤ _; exact Nat.le_of_eq rfl) (hb hby d12_41) (fun _ _ => ⟨rfl, e24, (by decide : 0 + 0 ≤ _), (by decide : 0 + 0 ≤ _)⟩)
        dsimp only [Pt.U, Pt.locs, Pt.cells, Pt.slots] at X28 l28 y28 z28 st28 hQ28
        replace l28 := l28.symm
        replace y28 : 0 = k28 := y28.symm
        replace z28 : 0 = n28 := z28.symm
        subst l28 y28 z28
        obtain ⟨rfl, M28, e28⟩ := hQ28
        have N28 := Fr.app N24 M28
        have pre29 : ∀ t, Steps p.tables e below (T28.setTop (mkF m 44 #[iv xp, iv xl, iv (1 : Int32), iv (1 : Int32)] [(.int (own_x1 xp))])) t → Steps p.tables e below (s₁.setTop (entryFrame m #[(.int xp), (.int xl)] 4)) t := fun t kt => pre27 _ (st28 _ kt)
        by_cases hc30 : (own_x1 xp) = (0 : Int32)
        · have pre31 : ∀ t, Steps p.tables e below (T28.setTop (mkF m 52 #[iv xp, iv xl, iv (1 : Int32), iv (1 : Int32)] [(.int (1 : Int32))])) t → Steps p.tables e below (s₁.setTop (entryFrame m #[(.int xp), (.int xl)] 4)) t := fun t kt => by
            refine pre29 _ ?_
            show Steps p.tables e below (T28.setTop (mkF m 44 #[iv xp, iv xl, iv (1 : Int32), iv (1 : Int32)] [(.int (own_x1 xp))])) _
            refine XS.ifNo X28.here hx rfl (hb hby d12_44) rfl (XT.i0_ne_f hc30) ?_
            refine XS.iconst X28.here hx rfl (hb hby d12_47) ?_
            refine XS.goto X28.here hx rfl (pc0 := 48) (pc' := 52) rfl (hb hby d12_48) (by decide) (by decide) ?_
            exact kt
          -- returns (.int (1 : Int32)), wanted (.int (own_same xp xl))
          obtain ⟨fs, hr, hrun, hended, hW, hsame⟩ := X28.leave (v := some (.int (1 : Int32))) (fun h => by rw [Bd.returns] at h; cases h)
          refine ⟨_, _, pre31 _ (retN X28 hx (t := .boolean) Bd.returns (by simp) (hb hby d12_52) hr), hrun, hended, _, _, rfl, ?_, ⟨_, rfl⟩, hW, hsame.mono (by decide) (by decide)⟩
          show Q_same Z xp xl h0 n0 _ T28.heap _
          rw [e28]
          exact ⟨(congrArg (fun z => some (Value.int z)) ((if_neg hc10).trans ((if_neg hc21).trans ((if_pos hc26).trans (if_pos hc30)))).symm), N28, rfl⟩
        · have pre32 : ∀ t, Steps p.tables e below (T28.setTop (mkF m 52 #[iv xp, iv xl, iv (1 : Int32), iv (1 : Int32)] [(.int (0 : Int32))])) t → Steps p.tables e below (s₁.setTop (entryFrame m #[(.int xp), (.int xl)] 4)) t := fun t kt => by
            refine pre29 _ ?_
            show Steps p.tables e below (T28.setTop (mkF m 44 #[iv xp, iv xl, iv (1 : Int32), iv (1 : Int32)] [(.int (own_x1 xp))])) _
            refine XS.ifYes X28.here hx rfl (pc0 := 44) (pc' := 51) rfl (hb hby d12_44) rfl (XT.i0_ne_t hc30) (by decide) (by decide) ?_
            refine XS.iconst X28.here hx rfl (hb hby d12_51) ?_
            exact kt
          -- returns (.int (0 : Int32)), wanted (.int (own_same xp xl))
          obtain ⟨fs, hr, hrun, hended, hW, hsame⟩ := X28.leave (v := some (.int (0 : Int32))) (fun h => by rw [Bd.returns] at h; cases h)
          refine ⟨_, _, pre32 _ (retN X28 hx (t := .boolean) Bd.returns (by simp) (hb hby d12_52) hr), hrun, hended, _, _, rfl, ?_, ⟨_, rfl⟩, hW, hsame.mono (by decide) (by decide)⟩
          show Q_same Z xp xl h0 n0 _ T28.heap _
          rw [e28]
          exact ⟨(congrArg (fun z => some (Value.int z)) ((if_neg hc10).trans ((if_neg hc21).trans ((if_pos hc26).trans (if_neg hc30)))).symm), N28, rfl⟩
      · have pre33 : ∀ t, Steps p.tables e below (T24.setTop (mkF m 52 #[iv xp, iv xl, iv (1 : Int32), iv (1 : Int32)] [(.int (0 : Int32))])) t → Steps p.tables e below (s₁.setTop (entryFrame m #[(.int xp), (.int xl)] 4)) t := fun t kt => by
          refine pre25 _ ?_
          show Steps p.tables e below (T24.setTop (mkF m 33 #[iv xp, iv xl, iv (1 : Int32), iv (1 : Int32)] [(.int (own_x0 xp))])) _
          refine XS.ifYes X24.here hx rfl (pc0 := 33) (pc' := 51) rfl (hb hby d12_33) rfl (XT.i0_ne_t hc26) (by decide) (by decide) ?_
          refine XS.iconst X24.here hx rfl (hb hby d12_51) ?_
          exact kt
        -- returns (.int (0 : Int32)), wanted (.int (own_same xp xl))
        obtain ⟨fs, hr, hrun, hended, hW, hsame⟩ := X24.leave (v := some (.int (0 : Int32))) (fun h => by rw [Bd.returns] at h; cases h)
        refine ⟨_, _, pre33 _ (retN X24 hx (t := .boolean) Bd.returns (by simp) (hb hby d12_52) hr), hrun, hended, _, _, rfl, ?_, ⟨_, rfl⟩, hW, hsame.mono (by decide) (by decide)⟩
        show Q_same Z xp xl h0 n0 _ T24.heap _
        rw [e24]
        exact ⟨(congrArg (fun z => some (Value.int z)) ((if_neg hc10).trans ((if_neg hc21).trans (if_neg hc26))).symm), N24, rfl⟩
theorem ef_5 (m : MethodId) (x0 : Int32) (x1 : Int32) (x2 : Int32) : entryFrame m #[(.int x0), (.int x1), (.int x2)] 3 = mkF m 0 #[.val (.int x0), .val (.int x1), .val (.int x2)] [] := by first | (simp [entryFrame, mkF, argsToLocals, Value.category]; done) | rfl
theorem d2_0 : decode method_2_code 0 = .ok (.iload_n 2, 1) := by decide +kernel
theorem d2_1 : decode method_2_code 1 = .ok (.ifCond .eq 26, 3) := by decide +kernel
theorem d2_4 : decode method_2_code 4 = .ok (.new 7, 3) := by decide +kernel
theorem d2_7 : decode method_2_code 7 = .ok (.dup, 1) := by decide +kernel
theorem d2_8 : decode method_2_code 8 = .ok (.iconst 2, 1) := by decide +kernel
theorem d2_9 : decode method_2_code 9 = .ok (.newarray .char, 2) := by decide +kernel
theorem d2_11 : decode method_2_code 11 = .ok (.dup, 1) := by decide +kernel
theorem d2_12 : decode method_2_code 12 = .ok (.iconst 0, 1) := by decide +kernel
theorem d2_13 : decode method_2_code 13 = .ok (.iload_n 0, 1) := by decide +kernel
theorem d2_14 : decode method_2_code 14 = .ok (.i2c, 1) := by decide +kernel
theorem d2_15 : decode method_2_code 15 = .ok (.castore, 1) := by decide +kernel
theorem d2_16 : decode method_2_code 16 = .ok (.dup, 1) := by decide +kernel
theorem d2_17 : decode method_2_code 17 = .ok (.iconst 1, 1) := by decide +kernel
theorem d2_18 : decode method_2_code 18 = .ok (.iload_n 1, 1) := by decide +kernel
theorem d2_19 : decode method_2_code 19 = .ok (.i2c, 1) := by decide +kernel
theorem d2_20 : decode method_2_code 20 = .ok (.castore, 1) := by decide +kernel
theorem d2_21 : decode method_2_code 21 = .ok (.invokespecial 9, 3) := by decide +kernel
theorem d3_0 : decode jdk_42_method_3_code 0 = .ok (.aload_n 0, 1) := by decide +kernel
theorem d3_1 : decode jdk_42_method_3_code 1 = .ok (.aload_n 1, 1) := by decide +kernel
theorem d3_2 : decode jdk_42_method_3_code 2 = .ok (.iconst 0, 1) := by decide +kernel
theorem d3_3 : decode jdk_42_method_3_code 3 = .ok (.aload_n 1, 1) := by decide +kernel
theorem d3_4 : decode jdk_42_method_3_code 4 = .ok (.arraylength, 1) := by decide +kernel
theorem d3_5 : decode jdk_42_method_3_code 5 = .ok (.aconst_null, 1) := by decide +kernel
theorem d3_6 : decode jdk_42_method_3_code 6 = .ok (.invokespecial 27, 3) := by decide +kernel
theorem d4_0 : decode jdk_42_method_149_code 0 = .ok (.aload_n 0, 1) := by decide +kernel
theorem d4_1 : decode jdk_42_method_149_code 1 = .ok (.invokespecial 1, 3) := by decide +kernel
theorem d4_4 : decode jdk_42_method_149_code 4 = .ok (.iload_n 3, 1) := by decide +kernel
theorem d4_5 : decode jdk_42_method_149_code 5 = .ok (.ifCond .ne 22, 3) := by decide +kernel
theorem d4_27 : decode jdk_42_method_149_code 27 = .ok (.getstatic 38, 3) := by decide +kernel
theorem d4_30 : decode jdk_42_method_149_code 30 = .ok (.ifCond .eq 28, 3) := by decide +kernel
theorem d4_33 : decode jdk_42_method_149_code 33 = .ok (.aload_n 1, 1) := by decide +kernel
theorem d4_34 : decode jdk_42_method_149_code 34 = .ok (.iload_n 2, 1) := by decide +kernel
theorem d4_35 : decode jdk_42_method_149_code 35 = .ok (.iload_n 3, 1) := by decide +kernel
theorem d4_36 : decode jdk_42_method_149_code 36 = .ok (.invokestatic 177, 3) := by decide +kernel
theorem d6_0 : decode jdk_52_method_16_code 0 = .ok (.iload_n 2, 1) := by decide +kernel
theorem d6_1 : decode jdk_52_method_16_code 1 = .ok (.newarray .byte, 2) := by decide +kernel
theorem d6_3 : decode jdk_52_method_16_code 3 = .ok (.astore_n 3, 1) := by decide +kernel
theorem d6_4 : decode jdk_52_method_16_code 4 = .ok (.aload_n 0, 1) := by decide +kernel
theorem d6_5 : decode jdk_52_method_16_code 5 = .ok (.iload_n 1, 1) := by decide +kernel
theorem d6_6 : decode jdk_52_method_16_code 6 = .ok (.aload_n 3, 1) := by decide +kernel
theorem d6_7 : decode jdk_52_method_16_code 7 = .ok (.iconst 0, 1) := by decide +kernel
theorem d6_8 : decode jdk_52_method_16_code 8 = .ok (.iload_n 2, 1) := by decide +kernel
theorem d6_9 : decode jdk_52_method_16_code 9 = .ok (.invokestatic 115, 3) := by decide +kernel
theorem d7_0 : decode jdk_52_method_21_code 0 = .ok (.iconst 0, 1) := by decide +kernel
theorem d7_1 : decode jdk_52_method_21_code 1 = .ok (.istore 5, 2) := by decide +kernel
theorem d7_3 : decode jdk_52_method_21_code 3 = .ok (.iload 5, 2) := by decide +kernel
theorem d7_5 : decode jdk_52_method_21_code 5 = .ok (.iload 4, 2) := by decide +kernel
theorem d7_7 : decode jdk_52_method_21_code 7 = .ok (.if_icmp .ge 37, 3) := by decide +kernel
theorem d7_10 : decode jdk_52_method_21_code 10 = .ok (.aload_n 0, 1) := by decide +kernel
theorem d7_11 : decode jdk_52_method_21_code 11 = .ok (.iload_n 1, 1) := by decide +kernel
theorem d7_12 : decode jdk_52_method_21_code 12 = .ok (.caload, 1) := by decide +kernel
theorem d7_13 : decode jdk_52_method_21_code 13 = .ok (.istore 6, 2) := by decide +kernel
theorem d7_15 : decode jdk_52_method_21_code 15 = .ok (.iload 6, 2) := by decide +kernel
theorem d7_17 : decode jdk_52_method_21_code 17 = .ok (.sipush 255, 3) := by decide +kernel
theorem d7_20 : decode jdk_52_method_21_code 20 = .ok (.if_icmp .le 6, 3) := by decide +kernel
theorem d7_26 : decode jdk_52_method_21_code 26 = .ok (.aload_n 2, 1) := by decide +kernel
theorem d7_27 : decode jdk_52_method_21_code 27 = .ok (.iload_n 3, 1) := by decide +kernel
theorem d7_28 : decode jdk_52_method_21_code 28 = .ok (.iload 6, 2) := by decide +kernel
theorem d7_30 : decode jdk_52_method_21_code 30 = .ok (.i2b, 1) := by decide +kernel
theorem d7_31 : decode jdk_52_method_21_code 31 = .ok (.bastore, 1) := by decide +kernel
theorem d7_32 : decode jdk_52_method_21_code 32 = .ok (.iinc 1 1, 3) := by decide +kernel
theorem d7_35 : decode jdk_52_method_21_code 35 = .ok (.iinc 3 1, 3) := by decide +kernel
theorem d7_38 : decode jdk_52_method_21_code 38 = .ok (.iinc 5 1, 3) := by decide +kernel
theorem d7_41 : decode jdk_52_method_21_code 41 = .ok (.goto (-38), 3) := by decide +kernel
theorem d7_44 : decode jdk_52_method_21_code 44 = .ok (.iload 4, 2) := by decide +kernel
theorem d7_46 : decode jdk_52_method_21_code 46 = .ok (.ireturn, 1) := by decide +kernel
theorem pn_6 : plainName "java/lang/StringUTF16" = true := by first | (simp [plainName, overriddenIn]; done) | decide +kernel
theorem ef_7 (m : MethodId) (x0 : Addr) (x1 : Int32) (x2 : Addr) (x3 : Int32) (x4 : Int32) : entryFrame m #[(.ref x0), (.int x1), (.ref x2), (.int x3), (.int x4)] 7 = mkF m 0 #[.val (.ref x0), .val (.int x1), .val (.ref x2), .val (.int x3), .val (.int x4), .unset, .unset] [] := by first | (simp [entryFrame, mkF, argsToLocals, Value.category]; done) | rfl
def Q_compress7_0 (Z : State) (b41 : Addr) (b80 : Addr) (c0 : Int32) (c1 : Int32) (k41 : ClassId) (k80 : ClassId) (h0 : Heap) (n0 : Nat) (v : Option Value) (h : Heap) (L : List Loc) : Prop := v = some (.int (2 : Int32)) ∧ Fr n0 L ∧ Keep h0 h [b80] ∧ Old Z n0 h ∧ Exa Z h b80 "[B" ∧ Arv Z h b80 k80 .byte (2 : Int32) [(.int (nar .byte ((nar .char (c0.toUInt32.toUInt16.toUInt32.toInt32)).toInt8.toInt32))), (.int (nar .byte ((nar .char (c1.toUInt32.toUInt16.toUInt32.toInt32)).toInt8.toInt32)))] (.int (0 : Int32))
set_option maxRecDepth 65536 in
set_option maxHeartbeats 40000000 in
theorem rm_compress7_0 (l : Launch) (Z : State) (a0 : Array Value) (hw : ∀ d ∈ tables_1, d.before a0 Z = true) (ws : List Jvm.Cond) (b41 : Addr) (b80 : Addr) (c0 : Int32) (c1 : Int32) (k41 : ClassId) (k80 : ClassId) (h0 : Heap) (n0 : Nat) (O0 : Old Z n0 h0) (g_b80 : n0 ≤ b80) (Fi0 : Arv Z h0 b41 k41 .char (2 : Int32) [(.int (nar .char (c0.toUInt32.toUInt16.toUInt32.toInt32))), (.int (nar .char (c1.toUInt32.toUInt16.toUInt32.toInt32)))] (.int (0 : Int32))) (Fi1 : Exa Z h0 b80 "[B") (Fi2 : Arv Z h0 b80 k80 .byte (2 : Int32) [(.int (0 : Int32)), (.int (0 : Int32))] (.int (0 : Int32))) (q0 : own_u8 c0) (q1 : own_u8 c1) (q2 : ¬ (b80 = b41)) :
    MetFree l (⟨"java/lang/StringUTF16", "compress", "([CI[BII)I"⟩ : MethodName) (head1 (Jvm.Cond.code (⟨"java/lang/StringUTF16", "compress", "([CI[BII)I"⟩ : MethodName) jdk_52_method_21_code 7 (some .int) :: ws) ({ frames := 0, cells := 0, slots := 0, locals := 0 } : Room)) (fun a U => a = #[(.ref b41), (.int (0 : Int32)), (.ref b80), (.int (0 : Int32)), (.int (2 : Int32))] ∧ Z.Warmed39 U.vm ∧ U.heap = h0) (fun _ _ _ _ _ => True) (fun _ U o U' => ∃ v L, o = .returned v ∧ Q_compress7_0 Z b41 b80 c0 c1 k41 k80 h0 n0 v U'.heap L ∧ FrameEnd U o U' L ({ frames := 0, cells := 0, slots := 0, locals := 0 } : Room).cells ({ frames := 0, cells := 0, slots := 0, locals := 0 } : Room).slots) := by
  refine MetFree.of_bodySF (plainFor_of_name pn_6) hisR ?_
  intro p e s m args below meth c s₁ Bd hml0 hP hK
  have W := fun {d : Jvm.Cond} (i : Nat) (q : tables_1[i]? = some d) => hw d (List.mem_of_getElem? q)
  obtain ⟨rfl, hZ, hh⟩ := hP
  have hx := Bd.exec
  have hby := Bd.bytes
  have hml : c.maxLocals = 7 := hml0
  have hown : s.vm.findClass "java/lang/StringUTF16" = some m.cls := findClass_of_methodNamed Bd.named
  have hnm := (name_of_methodNamed Bd.named Bd.method).1
  have X0 : Stand p l e ({ frames := 0, cells := 0, slots := 0, locals := 0 } : Room) s m #[(.ref b41), (.int (0 : Int32)), (.ref b80), (.int (0 : Int32)), (.int (2 : Int32))] below meth c s₁ [] 0 0 := Stand.of_body Bd
  have e0 : s₁.heap = h0 := by rw [← hh, Bd.state]; rfl
  have N0 := Fr.nil n0
  have pre0 : ∀ t, Steps p.tables e below (s₁.setTop (mkF m 0 #[rv b41, iv (0 : Int32), rv b80, iv (0 : Int32), iv (2 : Int32), .unset, .unset] [])) t → Steps p.tables e below (s₁.setTop (entryFrame m #[(.ref b41), (.int (0 : Int32)), (.ref b80), (.int (0 : Int32)), (.int (2 : Int32))] 7)) t := fun t k => castTop (ef_7 m b41 (0 : Int32) b80 (0 : Int32) (2 : Int32)) k
  have K0 : Keep h0 h0 [b80] := Keep.refl h0 [b80]
  have pre157 : ∀ t, Steps p.tables e below (s₁.setTop (mkF m 12 #[rv b41, iv (0 : Int32), rv b80, iv (0 : Int32), iv (2 : Int32), iv (0 : Int32), .unset] [(.int (0 : Int32)), (.ref b41)])) t → Steps p.tables e below (s₁.setTop (entryFrame m #[(.ref b41), (.int (0 : Int32)), (.ref b80), (.int (0 : Int32)), (.int (2 : Int32))] 7)) t := fun t kt => by
    refine pre0 _ ?_
    show Steps p.tables e below (s₁.setTop (mkF m 0 #[rv b41, iv (0 : Int32), rv b80, iv (0 : Int32), iv (2 : Int32), .unset, .unset] [])) _
    refine XS.iconst X0.here hx rfl (hb hby d7_0) ?_
    refine XS.istore X0.here hx rfl (hb hby d7_1) rfl (l' := #[rv b41, iv (0 : Int32), rv b80, iv (0 : Int32), iv (2 : Int32), iv (0 : Int32), .unset]) rfl ?_
    refine XS.iload X0.here hx rfl (hb hby d7_3) rfl ?_
    refine XS.iload X0.here hx rfl (hb hby d7_5) rfl ?_
    refine XS.icmpNo X0.here hx rfl (hb hby d7_7) rfl (XT.ii_ge_f (by decide)) ?_
    refine XS.aloadN X0.here hx rfl (hb hby d7_10) rfl rfl ?_
    refine XS.iloadN X0.here hx rfl (hb hby d7_11) rfl ?_
    exact kt
  obtain ⟨c156, Ar156, q156, S156, M156, H156, G156⟩ := id Fi0
  have i156 : ¬ ((0 : Int32) < 0 ∨ c156.slots.size ≤ ((0 : Int32)).toNatClampNeg) := inb_of S156 ⟨by decide, by decide⟩
  have t156 : c156.slots[((0 : Int32)).toNatClampNeg]? = some (.int (nar .char (c0.toUInt32.toUInt16.toUInt32.toInt32))) := Has.at H156 i156 rfl
  have pre158 : ∀ t, Steps p.tables e below (s₁.setTop (mkF m 31 #[rv b41, iv (0 : Int32), rv b80, iv (0 : Int32), iv (2 : Int32), iv (0 : Int32), iv (nar .char (c0.toUInt32.toUInt16.toUInt32.toInt32))] [(.int ((nar .char (c0.toUInt32.toUInt16.toUInt32.toInt32)).toInt8.toInt32)), (.int (0 : Int32)), (.ref b80)])) t → Steps p.tables e below (s₁.setTop (entryFrame m #[(.ref b41), (.int (0 : Int32)), (.ref b80), (.int (0 : Int32)), (.int (2 : Int32))] 7)) t := fun t kt => by
    refine pre157 _ ?_
    show Steps p.tables e below (s₁.setTop (mkF m 12 #[rv b41, iv (0 : Int32), rv b80, iv (0 : Int32), iv (2 : Int32), iv (0 : Int32), .unset] [(.int (0 : Int32)), (.ref b41)])) _
    refine X0.caload hx (j := (0 : Int32)) (v := (.int (nar .char (c0.toUInt32.toUInt16.toUInt32.toInt32)))) (by rw [e0]; exact Ar156.1) (State.isArrayOf_alike hZ.alike Ar156.2.1) Ar156.2.2 i156 t156 (g := (mkF m 12 #[rv b41, iv (0 : Int32), rv b80, iv (0 : Int32), iv (2 : Int32), iv (0 : Int32), .unset] [(.int (0 : Int32)), (.ref b41)])) rfl rfl (hb hby d7_12) _ ?_
    refine XS.istore X0.here hx rfl (hb hby d7_13) rfl (l' := #[rv b41, iv (0 : Int32), rv b80, iv (0 : Int32), iv (2 : Int32), iv (0 : Int32), iv (nar .char (c0.toUInt32.toUInt16.toUInt32.toInt32))]) rfl ?_
    refine XS.iload X0.here hx rfl (hb hby d7_15) rfl ?_
    refine XS.sipush X0.here hx rfl (hb hby d7_17) ?_
    refine XS.icmpYes X0.here hx rfl (pc0 := 20) (pc' := 26) rfl (hb hby d7_20) rfl (XT.ii_le_t (own_ch255 q0)) (by decide) (by decide) ?_
    refine XS.aloadN X0.here hx rfl (hb hby d7_26) rfl rfl ?_
    refine XS.iloadN X0.here hx rfl (hb hby d7_27) rfl ?_
    refine XS.iload X0.here hx rfl (hb hby d7_28) rfl ?_
    show Steps p.tables e below (s₁.setTop (mkF m 30 #[rv b41, iv (0 : Int32), rv b80, iv (0 : Int32), iv (2 : Int32), iv (0 : Int32), iv (nar .char (c0.toUInt32.toUInt16.toUInt32.toInt32))] [(.int (nar .char (c0.toUInt32.toUInt16.toUInt32.toInt32))), (.int (0 : Int32)), (.ref b80)])) _
    refine XS.i2b X0.here hx rfl (hb hby d7_30) rfl ?_
    exact kt
  obtain ⟨c159, Ar159, q159, S159, M159, H159, G159⟩ := id Fi2
  have i159 : ¬ ((0 : Int32) < 0 ∨ c159.slots.size ≤ ((0 : Int32)).toNatClampNeg) := inb_of S159 ⟨by decide, by decide⟩
  obtain ⟨T160, h160, X160, e160, W160, st160⟩ := stB X0 hx hZ e0 Ar159 (j := (0 : Int32)) i159 (g := (mkF m 31 #[rv b41, iv (0 : Int32), rv b80, iv (0 : Int32), iv (2 : Int32), iv (0 : Int32), iv (nar .char (c0.toUInt32.toUInt16.toUInt32.toInt32))] [(.int ((nar .char (c0.toUInt32.toUInt16.toUInt32.toInt32)).toInt8.toInt32)), (.int (0 : Int32)), (.ref b80)])) rfl rfl (hb hby d7_31)
  have pre161 : ∀ t, Steps p.tables e below (T160.setTop (mkF m 32 #[rv b41, iv (0 : Int32), rv b80, iv (0 : Int32), iv (2 : Int32), iv (0 : Int32), iv (nar .char (c0.toUInt32.toUInt16.toUInt32.toInt32))] [])) t → Steps p.tables e below (s₁.setTop (entryFrame m #[(.ref b41), (.int (0 : Int32)), (.ref b80), (.int (0 : Int32)), (.int (2 : Int32))] 7)) t := fun t kt => pre158 _ (st160 _ kt)
  have N160 := Fr.snoc X160 N0 g_b80
  have O160 := O0.wr W160 g_b80
  have K160 : Keep h0 h160 [b80] := K0.wr W160 (Or.inl (List.mem_of_getElem? (i := 0) rfl))
  have F162 := Fi0.other W160 (fun q => q2 q.symm)
  have F163 := Fi1.wr W160
  have F164 : Arv Z h160 b80 k80 .byte (2 : Int32) [(.int (nar .byte ((nar .char (c0.toUInt32.toUInt16.toUInt32.toInt32)).toInt8.toInt32))), (.int (0 : Int32))] (.int (0 : Int32)) := Arv.set Ar159 q159 S159 M159 H159 G159 (fits_nar_byte _) W160 0 rfl (Nat.le_of_ble_eq_true rfl)
  have pre166 : ∀ t, Steps p.tables e below (T160.setTop (mkF m 12 #[rv b41, iv (1 : Int32), rv b80, iv (1 : Int32), iv (2 : Int32), iv (1 : Int32), iv (nar .char (c0.toUInt32.toUInt16.toUInt32.toInt32))] [(.int (1 : Int32)), (.ref b41)])) t → Steps p.tables e below (s₁.setTop (entryFrame m #[(.ref b41), (.int (0 : Int32)), (.ref b80), (.int (0 : Int32)), (.int (2 : Int32))] 7)) t := fun t kt => by
    refine pre161 _ ?_
    show Steps p.tables e below (T160.setTop (mkF m 32 #[rv b41, iv (0 : Int32), rv b80, iv (0 : Int32), iv (2 : Int32), iv (0 : Int32), iv (nar .char (c0.toUInt32.toUInt16.toUInt32.toInt32))] [])) _
    refine XS.iinc X160.here hx rfl (hb hby d7_32) rfl (l' := #[rv b41, iv ((0 : Int32) + (1 : Int32)), rv b80, iv (0 : Int32), iv (2 : Int32), iv (0 : Int32), iv (nar .char (c0.toUInt32.toUInt16.toUInt32.toInt32))]) rfl ?_
    show  Steps p.tables e below (T160.setTop (mkF m 35 #[rv b41, iv ((0 : Int32) + (1 : Int32)), rv b80, iv (0 : Int32), iv (2 : Int32), iv (0 : Int32), iv (nar .char (c0.toUInt32.toUInt16.toUInt32.toInt32))] [])) _
    rw [(by decide : (((0 : Int32) + (1 : Int32)) : Int32) = (1 : Int32))]
    refine XS.iinc X160.here hx rfl (hb hby d7_35) rfl (l' := #[rv b41, iv (1 : Int32), rv b80, iv ((0 : Int32) + (1 : Int32)), iv (2 : Int32), iv (0 : Int32), iv (nar .char (c0.toUInt32.toUInt16.toUInt32.toInt32))]) rfl ?_
    show  Steps p.tables e below (T160.setTop (mkF m 38 #[rv b41, iv (1 : Int32), rv b80, iv ((0 : Int32) + (1 : Int32)), iv (2 : Int32), iv (0 : Int32), iv (nar .char (c0.toUInt32.toUInt16.toUInt32.toInt32))] [])) _
    rw [(by decide : (((0 : Int32) + (1 : Int32)) : Int32) = (1 : Int32))]
    refine XS.iinc X160.here hx rfl (hb hby d7_38) rfl (l' := #[rv b41, iv (1 : Int32), rv b80, iv (1 : Int32), iv (2 : Int32), iv ((0 : Int32) + (1 : Int32)), iv (nar .char (c0.toUInt32.toUInt16.toUInt32.toInt32))]) rfl ?_
    show  Steps p.tables e below (T160.setTop (mkF m 41 #[rv b41, iv (1 : Int32), rv b80, iv (1 : Int32), iv (2 : Int32), iv ((0 : Int32) + (1 : Int32)), iv (nar .char (c0.toUInt32.toUInt16.toUInt32.toInt32))] [])) _
    rw [(by decide : (((0 : Int32) + (1 : Int32)) : Int32) = (1 : Int32))]
    refine XS.goto X160.here hx rfl (pc0 := 41) (pc' := 3) rfl (hb hby d7_41) (by decide) (by decide) ?_
    refine XS.iload X160.here hx rfl (hb hby d7_3) rfl ?_
    refine XS.iload X160.here hx rfl (hb hby d7_5) rfl ?_
    refine XS.icmpNo X160.here hx rfl (hb hby d7_7) rfl (XT.ii_ge_f (by decide)) ?_
    refine XS.aloadN X160.here hx rfl (hb hby d7_10) rfl rfl ?_
    show Steps p.tables e below (T160.setTop (mkF m 11 #[rv b41, iv (1 : Int32), rv b80, iv (1 : Int32), iv (2 : Int32), iv (1 : Int32), iv (nar .char (c0.toUInt32.toUInt16.toUInt32.toInt32))] [(.ref b41)])) _
    refine XS.iloadN X160.here hx rfl (hb hby d7_11) rfl ?_
    exact kt
  obtain ⟨c165, Ar165, q165, S165, M165, H165, G165⟩ := id F162
  have i165 : ¬ ((1 : Int32) < 0 ∨ c165.slots.size ≤ ((1 : Int32)).toNatClampNeg) := inb_of S165 ⟨by decide, by decide⟩
  have t165 : c165.slots[((1 : Int32)).toNatClampNeg]? = some (.int (nar .char (c1.toUInt32.toUInt16.toUInt32.toInt32))) := Has.at H165 i165 rfl
  have pre167 : ∀ t, Steps p.tables e below (T160.setTop (mkF m 31 #[rv b41, iv (1 : Int32), rv b80, iv (1 : Int32), iv (2 : Int32), iv (1 : Int32), iv (nar .char (c1.toUInt32.toUInt16.toUInt32.toInt32))] [(.int ((nar .char (c1.toUInt32.toUInt16.toUInt32.toInt32)).toInt8.toInt32)), (.int (1 : Int32)), (.ref b80)])) t → Steps p.tables e below (s₁.setTop (entryFrame m #[(.ref b41), (.int (0 : Int32)), (.ref b80), (.int (0 : Int32)), (.int (2 : Int32))] 7)) t := fun t kt => by
    refine pre166 _ ?_
    show Steps p.tables e below (T160.setTop (mkF m 12 #[rv b41, iv (1 : Int32), rv b80, iv (1 : Int32), iv (2 : Int32), iv (1 : Int32), iv (nar .char (c0.toUInt32.toUInt16.toUInt32.toInt32))] [(.int (1 : Int32)), (.ref b41)])) _
    refine X160.caload hx (j := (1 : Int32)) (v := (.int (nar .char (c1.toUInt32.toUInt16.toUInt32.toInt32)))) (by rw [e160]; exact Ar165.1) (State.isArrayOf_alike hZ.alike Ar165.2.1) Ar165.2.2 i165 t165 (g := (mkF m 12 #[rv b41, iv (1 : Int32), rv b80, iv (1 : Int32), iv (2 : Int32), iv (1 : Int32), iv (nar .char (c0.toUInt32.toUInt16.toUInt32.toInt32))] [(.int (1 : Int32)), (.ref b41)])) rfl rfl (hb hby d7_12) _ ?_
    refine XS.istore X160.here hx rfl (hb hby d7_13) rfl (l' := #[rv b41, iv (1 : Int32), rv b80, iv (1 : Int32), iv (2 : Int32), iv (1 : Int32), iv (nar .char (c1.toUInt32.toUInt16.toUInt32.toInt32))]) rfl ?_
    refine XS.iload X160.here hx rfl (hb hby d7_15) rfl ?_
    refine XS.sipush X160.here hx rfl (hb hby d7_17) ?_
    refine XS.icmpYes X160.here hx rfl (pc0 := 20) (pc' := 26) rfl (hb hby d7_20) rfl (XT.ii_le_t (own_ch255 q1)) (by decide) (by decide) ?_
    refine XS.aloadN X160.here hx rfl (hb hby d7_26) rfl rfl ?_
    refine XS.iloadN X160.here hx rfl (hb hby d7_27) rfl ?_
    refine XS.iload X160.here hx rfl (hb hby d7_28) rfl ?_
    show Steps p.tables e below (T160.setTop (mkF m 30 #[rv b41, iv (1 : Int32), rv b80, iv (1 : Int32), iv (2 : Int32), iv (1 : Int32), iv (nar .char (c1.toUInt32.toUInt16.toUInt32.toInt32))] [(.int (nar .char (c1.toUInt32.toUInt16.toUInt32.toInt32))), (.int (1 : Int32)), (.ref b80)])) _
    refine XS.i2b X160.here hx rfl (hb hby d7_30) rfl ?_
    exact kt
  obtain ⟨c168, Ar168, q168, S168, M168, H168, G168⟩ := id F164
  have i168 : ¬ ((1 : Int32) < 0 ∨ c168.slots.size ≤ ((1 : Int32)).toNatClampNeg) := inb_of S168 ⟨by decide, by decide⟩
  obtain ⟨T169, h169, X169, e169, W169, st169⟩ := stB X160 hx hZ e160 Ar168 (j := (1 : Int32)) i168 (g := (mkF m 31 #[rv b41, iv (1 : Int32), rv b80, iv (1 : Int32), iv (2 : Int32), iv (1 : Int32), iv (nar .char (c1.toUInt32.toUInt16.toUInt32.toInt32))] [(.int ((nar .char (c1.toUInt32.toUInt16.toUInt32.toInt32)).toInt8.toInt32)), (.int (1 : Int32)), (.ref b80)])) rfl rfl (hb hby d7_31)
  have pre170 : ∀ t, Steps p.tables e below (T169.setTop (mkF m 32 #[rv b41, iv (1 : Int32), rv b80, iv (1 : Int32), iv (2 : Int32), iv (1 : Int32), iv (nar .char (c1.toUInt32.toUInt16.toUInt32.toInt32))] [])) t → Steps p.tables e below (s₁.setTop (entryFrame m #[(.ref b41), (.int (0 : Int32)), (.ref b80), (.int (0 : Int32)), (.int (2 : Int32))] 7)) t := fun t kt => pre167 _ (st169 _ kt)
  have N169 := Fr.snoc X169 N160 g_b80
  have O169 := O160.wr W169 g_b80
  have K169 : Keep h0 h169 [b80] := K160.wr W169 (Or.inl (List.mem_of_getElem? (i := 0) rfl))
  have F171 := F162.other W169 (fun q => q2 q.symm)
  have F172 := F163.wr W169
  have F173 : Arv Z h169 b80 k80 .byte (2 : Int32) [(.int (nar .byte ((nar .char (c0.toUInt32.toUInt16.toUInt32.toInt32)).toInt8.toInt32))), (.int (nar .byte ((nar .char (c1.toUInt32.toUInt16.toUInt32.toInt32)).toInt8.toInt32)))] (.int (0 : Int32)) := Arv.set Ar168 q168 S168 M168 H168 G168 (fits_nar_byte _) W169 1 rfl (Nat.le_of_ble_eq_true rfl)
  have pre174 : ∀ t, Steps p.tables e below (T169.setTop (mkF m 46 #[rv b41, iv (2 : Int32), rv b80, iv (2 : Int32), iv (2 : Int32), iv (2 : Int32), iv (nar .char (c1.toUInt32.toUInt16.toUInt32.toInt32))] [(.int (2 : Int32))])) t → Steps p.tables e below (s₁.setTop (entryFrame m #[(.ref b41), (.int (0 : Int32)), (.ref b80), (.int (0 : Int32)), (.int (2 : Int32))] 7)) t := fun t kt => by
    refine pre170 _ ?_
    show Steps p.tables e below (T169.setTop (mkF m 32 #[rv b41, iv (1 : Int32), rv b80, iv (1 : Int32), iv (2 : Int32), iv (1 : Int32), iv (nar .char (c1.toUInt32.toUInt16.toUInt32.toInt32))] [])) _
    refine XS.iinc X169.here hx rfl (hb hby d7_32) rfl (l' := #[rv b41, iv ((1 : Int32) + (1 : Int32)), rv b80, iv (1 : Int32), iv (2 : Int32), iv (1 : Int32), iv (nar .char (c1.toUInt32.toUInt16.toUInt32.toInt32))]) rfl ?_
    show  Steps p.tables e below (T169.setTop (mkF m 35 #[rv b41, iv ((1 : Int32) + (1 : Int32)), rv b80, iv (1 : Int32), iv (2 : Int32), iv (1 : Int32), iv (nar .char (c1.toUInt32.toUInt16.toUInt32.toInt32))] [])) _
    rw [(by decide : (((1 : Int32) + (1 : Int32)) : Int32) = (2 : Int32))]
    refine XS.iinc X169.here hx rfl (hb hby d7_35) rfl (l' := #[rv b41, iv (2 : Int32), rv b80, iv ((1 : Int32) + (1 : Int32)), iv (2 : Int32), iv (1 : Int32), iv (nar .char (c1.toUInt32.toUInt16.toUInt32.toInt32))]) rfl ?_
    show  Steps p.tables e below (T169.setTop (mkF m 38 #[rv b41, iv (2 : Int32), rv b80, iv ((1 : Int32) + (1 : Int32)), iv (2 : Int32), iv (1 : Int32), iv (nar .char (c1.toUInt32.toUInt16.toUInt32.toInt32))] [])) _
    rw [(by decide : (((1 : Int32) + (1 : Int32)) : Int32) = (2 : Int32))]
    refine XS.iinc X169.here hx rfl (hb hby d7_38) rfl (l' := #[rv b41, iv (2 : Int32), rv b80, iv (2 : Int32), iv (2 : Int32), iv ((1 : Int32) + (1 : Int32)), iv (nar .char (c1.toUInt32.toUInt16.toUInt32.toInt32))]) rfl ?_
    show  Steps p.tables e below (T169.setTop (mkF m 41 #[rv b41, iv (2 : Int32), rv b80, iv (2 : Int32), iv (2 : Int32), iv ((1 : Int32) + (1 : Int32)), iv (nar .char (c1.toUInt32.toUInt16.toUInt32.toInt32))] [])) _
    rw [(by decide : (((1 : Int32) + (1 : Int32)) : Int32) = (2 : Int32))]
    refine XS.goto X169.here hx rfl (pc0 := 41) (pc' := 3) rfl (hb hby d7_41) (by decide) (by decide) ?_
    refine XS.iload X169.here hx rfl (hb hby d7_3) rfl ?_
    refine XS.iload X169.here hx rfl (hb hby d7_5) rfl ?_
    refine XS.icmpYes X169.here hx rfl (pc0 := 7) (pc' := 44) rfl (hb hby d7_7) rfl (XT.ii_ge_t (by decide)) (by decide) (by decide) ?_
    refine XS.iload X169.here hx rfl (hb hby d7_44) rfl ?_
    exact kt
  obtain ⟨fs, hr, hrun, hended, hW, hsame⟩ := X169.leave (v := some (.int (2 : Int32))) (fun h => by rw [Bd.returns] at h; cases h)
  refine ⟨_, _, pre174 _ (retI X169 hx Bd.returns (hb hby d7_46) hr), hrun, hended, _, _, rfl, ?_, ⟨_, rfl⟩, hW, hsame.mono (by decide) (by decide)⟩
  show Q_compress7_0 Z b41 b80 c0 c1 k41 k80 h0 n0 _ T169.heap _
  rw [e169]
  exact ⟨rfl, N169, K169, O169, F172, F173⟩
theorem pd_8 : parseMethodDescriptor "([CI[BII)I" = some ⟨[(.array .char), .int, (.array .byte), .int, .int], some .int⟩ := by decide +kernel
theorem d6_12 : decode jdk_52_method_16_code 12 = .ok (.istore 4, 2) := by decide +kernel
theorem d6_14 : decode jdk_52_method_16_code 14 = .ok (.iload 4, 2) := by decide +kernel
theorem d6_16 : decode jdk_52_method_16_code 16 = .ok (.iload_n 2, 1) := by decide +kernel
theorem d6_17 : decode jdk_52_method_16_code 17 = .ok (.if_icmp .eq 40, 3) := by decide +kernel
theorem d6_57 : decode jdk_52_method_16_code 57 = .ok (.aload_n 3, 1) := by decide +kernel
theorem d6_58 : decode jdk_52_method_16_code 58 = .ok (.areturn, 1) := by decide +kernel
theorem ef_9 (m : MethodId) (x0 : Addr) (x1 : Int32) (x2 : Int32) : entryFrame m #[(.ref x0), (.int x1), (.int x2)] 6 = mkF m 0 #[.val (.ref x0), .val (.int x1), .val (.int x2), .unset, .unset, .unset] [] := by first | (simp [entryFrame, mkF, argsToLocals, Value.category]; done) | rfl
def Q_compress6_0 (Z : State) (b41 : Addr) (c0 : Int32) (c1 : Int32) (k41 : ClassId) (h0 : Heap) (n0 : Nat) (v : Option Value) (h : Heap) (L : List Loc) : Prop := ∃ (b211 : Addr) (k211 : ClassId), v = some (.ref b211) ∧ Fr n0 L ∧ Keep h0 h [] ∧ Old Z n0 h ∧ Exa Z h b211 "[B" ∧ Arv Z h b211 k211 .byte (2 : Int32) [(.int (nar .byte ((nar .char (c0.toUInt32.toUInt16.toUInt32.toInt32)).toInt8.toInt32))), (.int (nar .byte ((nar .char (c1.toUInt32.toUInt16.toUInt32.toInt32)).toInt8.toInt32)))] (.int (0 : Int32)) ∧ (h0.size ≤ b211)
set_option maxRecDepth 65536 in
set_option maxHeartbeats 40000000 in
theorem rm_compress6_0 (l : Launch) (Z : State) (a0 : Array Value) (hw : ∀ d ∈ tables_1, d.before a0 Z = true) (ws : List Jvm.Cond) (b41 : Addr) (c0 : Int32) (c1 : Int32) (k41 : ClassId) (h0 : Heap) (n0 : Nat) (O0 : Old Z n0 h0) (Fi0 : Exa Z h0 b41 "[C") (Fi1 : Arv Z h0 b41 k41 .char (2 : Int32) [(.int (nar .char (c0.toUInt32.toUInt16.toUInt32.toInt32))), (.int (nar .char (c1.toUInt32.toUInt16.toUInt32.toInt32)))] (.int (0 : Int32))) (q0 : own_u8 c0) (q1 : own_u8 c1) :
    MetFree l (⟨"java/lang/StringUTF16", "compress", "([CII)[B"⟩ : MethodName) (head1 (Jvm.Cond.code (⟨"java/lang/StringUTF16", "compress", "([CII)[B"⟩ : MethodName) jdk_52_method_16_code 6 (some (.array .byte)) :: ws) ({ frames := 1, cells := 1, slots := 2, locals := 18 } : Room)) (fun a U => a = #[(.ref b41), (.int (0 : Int32)), (.int (2 : Int32))] ∧ Z.Warmed39 U.vm ∧ U.heap = h0) (fun _ _ _ _ _ => True) (fun _ U o U' => ∃ v L, o = .returned v ∧ Q_compress6_0 Z b41 c0 c1 k41 h0 n0 v U'.heap L ∧ FrameEnd U o U' L ({ frames := 1, cells := 1, slots := 2, locals := 18 } : Room).cells ({ frames := 1, cells := 1, slots := 2, locals := 18 } : Room).slots) := by
  refine MetFree.of_bodySF (plainFor_of_name pn_6) hisR ?_
  intro p e s m args below meth c s₁ Bd hml0 hP hK
  have W := fun {d : Jvm.Cond} (i : Nat) (q : tables_1[i]? = some d) => hw d (List.mem_of_getElem? q)
  obtain ⟨rfl, hZ, hh⟩ := hP
  have hx := Bd.exec
  have hby := Bd.bytes
  have hml : c.maxLocals = 6 := hml0
  have hown : s.vm.findClass "java/lang/StringUTF16" = some m.cls := findClass_of_methodNamed Bd.named
  have hnm := (name_of_methodNamed Bd.named Bd.method).1
  have X0 : Stand p l e ({ frames := 1, cells := 1, slots := 2, locals := 18 } : Room) s m #[(.ref b41), (.int (0 : Int32)), (.int (2 : Int32))] below meth c s₁ [] 0 0 := Stand.of_body Bd
  have e0 : s₁.heap = h0 := by rw [← hh, Bd.state]; rfl
  have N0 := Fr.nil n0
  have pre0 : ∀ t, Steps p.tables e below (s₁.setTop (mkF m 0 #[rv b41, iv (0 : Int32), iv (2 : Int32), .unset, .unset, .unset] [])) t → Steps p.tables e below (s₁.setTop (entryFrame m #[(.ref b41), (.int (0 : Int32)), (.int (2 : Int32))] 6)) t := fun t k => castTop (ef_9 m b41 (0 : Int32) (2 : Int32)) k
  have K0 : Keep h0 h0 [] := Keep.refl h0 []
  have pre210 : ∀ t, Steps p.tables e below (s₁.setTop (mkF m 1 #[rv b41, iv (0 : Int32), iv (2 : Int32), .unset, .unset, .unset] [(.int (2 : Int32))])) t → Steps p.tables e below (s₁.setTop (entryFrame m #[(.ref b41), (.int (0 : Int32)), (.int (2 : Int32))] 6)) t := fun t kt => by
    refine pre0 _ ?_
    show Steps p.tables e below (s₁.setTop (mkF m 0 #[rv b41, iv (0 : Int32), iv (2 : Int32), .unset, .unset, .unset] [])) _
    refine XS.iloadN X0.here hx rfl (hb hby d6_0) rfl ?_
    exact kt
  obtain ⟨T211, h211, k211, X211, e211, E211, A211, B211, st211⟩ := newPE X0 hx hZ (W 26 rfl) e0 (g := (mkF m 1 #[rv b41, iv (0 : Int32), iv (2 : Int32), .unset, .unset, .unset] [(.int (2 : Int32))])) rfl (hb hby d6_1) rfl (by decide) (cap := 2) (by decide) (by decide) (by decide) (by decide) (ad := "[B") (by decide)
  obtain ⟨b211, g211⟩ : ∃ z, z = h0.size := ⟨_, rfl⟩
  rw [← g211] at A211 B211 st211
  have pre212 : ∀ t, Steps p.tables e below (T211.setTop (mkF m 3 #[rv b41, iv (0 : Int32), iv (2 : Int32), .unset, .unset, .unset] [(.ref b211)])) t → Steps p.tables e below (s₁.setTop (entryFrame m #[(.ref b41), (.int (0 : Int32)), (.int (2 : Int32))] 6)) t := fun t kt => pre210 _ (st211 _ kt)
  have O211 := O0.ext E211
  have K211 : Keep h0 h211 [] := K0.ext E211
  have F213 := Fi0.ext E211
  have F214 := Fi1.ext E211
  have g_b211 : n0 ≤ b211 := Nat.le_trans (Nat.le_trans (Nat.le_of_eq O0.1.symm) O0.2.1) (Nat.le_of_eq g211.symm)
  have sz_b211 : h0.size ≤ b211 := Nat.le_trans K0.1 (Nat.le_of_eq g211.symm)
  have ne_b41_b211 : b41 ≠ b211 := Nat.ne_of_lt (Nat.lt_of_lt_of_le Fi0.lt (Nat.le_of_eq g211.symm))
  have F215 : Exa Z h211 b211 "[B" := B211
  have F216 : Arv Z h211 b211 k211 .byte (2 : Int32) [(.int (0 : Int32)), (.int (0 : Int32))] (.int (0 : Int32)) := (Arv.new A211 (by decide)).pad (pad_rep [] (.int (0 : Int32)) 2)
  have pre217 : ∀ t, Steps p.tables e below (T211.setTop (mkF m 9 #[rv b41, iv (0 : Int32), iv (2 : Int32), rv b211, .unset, .unset] [(.int (2 : Int32)), (.int (0 : Int32)), (.ref b211), (.int (0 : Int32)), (.ref b41)])) t → Steps p.tables e below (s₁.setTop (entryFrame m #[(.ref b41), (.int (0 : Int32)), (.int (2 : Int32))] 6)) t := fun t kt => by
    refine pre212 _ ?_
    show Steps p.tables e below (T211.setTop (mkF m 3 #[rv b41, iv (0 : Int32), iv (2 : Int32), .unset, .unset, .unset] [(.ref b211)])) _
    refine XS.astoreN X211.here hx rfl (hb hby d6_3) rfl rfl (l' := #[rv b41, iv (0 : Int32), iv (2 : Int32), rv b211, .unset, .unset]) rfl ?_
    refine XS.aloadN X211.here hx rfl (hb hby d6_4) rfl rfl ?_
    refine XS.iloadN X211.here hx rfl (hb hby d6_5) rfl ?_
    refine XS.aloadN X211.here hx rfl (hb hby d6_6) rfl rfl ?_
    refine XS.iconst X211.here hx rfl (hb hby d6_7) ?_
    refine XS.iloadN X211.here hx rfl (hb hby d6_8) rfl ?_
    exact kt
  obtain ⟨_, _, ⟨T218, L218, k218, n218⟩, -, X218, ⟨Lc218, hQ218, l218, y218, z218⟩, st218⟩ := Jvm.LawKit.callS X211 hx (y := (⟨"java/lang/StringUTF16", "compress", "([CI[BII)I"⟩ : MethodName)) hown (mvT hZ (W 27 rfl)) (mvT hZ (W 28 rfl)) (mvT hZ (W 24 rfl)) (mvT hZ (W 29 rfl)) (by decide) (backOf (W := 0) (rm_compress7_0 l Z a0 hw [] b41 b211 c0 c1 k41 k211 h211 n0 O211 g_b211 F214 F215 F216 q0 q1 (fun q => ne_b41_b211 q.symm)) hZ (W 29 rfl) (W 24 rfl) (by decide) (by decide)) (g := (mkF m 9 #[rv b41, iv (0 : Int32), iv (2 : Int32), rv b211, .unset, .unset] [(.int (2 : Int32)), (.int (0 : Int32)), (.ref b211), (.int (0 : Int32)), (.ref b41)])) rfl (by rw [hml]; rfl) (argsL := [(.ref b41), (.int (0 : Int32)), (.ref b211), (.int (0 : Int32)), (.int (2 : Int32))]) (rest := []) (lenOf pd_8 rfl) rfl (by show 2 * 0 + _ ≤ _; exact Nat.le_of_eq rfl) (hb hby d6_9) (fun _ _ => ⟨rfl, e211, (by decide : 1 + 0 ≤ _), (by decide : 2 + 0 ≤ _)⟩)
  dsimp only [Pt.U, Pt.locs, Pt.cells, Pt.slots] at X218 l218 y218 z218 st218 hQ218
  replace l218 := l218.symm
  replace y218 : 1 = k218 := y218.symm
  replace z218 : 2 = n218 := z218.symm
  subst l218 y218 z218
  obtain ⟨rfl, M218, Kc218, O218, J218_0, J218_1⟩ := hQ218
  obtain ⟨h218, e218⟩ : ∃ z, T218.heap = z := ⟨_, rfl⟩
  rw [e218] at Kc218 O218 J218_0 J218_1
  have N218 := Fr.app N0 M218
  have K218 : Keep h0 h218 [] := K211.trans Kc218 (own_all1 (Or.inr sz_b211))
  have pre219 : ∀ t, Steps p.tables e below (T218.setTop (mkF m 12 #[rv b41, iv (0 : Int32), iv (2 : Int32), rv b211, .unset, .unset] [(.int (2 : Int32))])) t → Steps p.tables e below (s₁.setTop (entryFrame m #[(.ref b41), (.int (0 : Int32)), (.int (2 : Int32))] 6)) t := fun t kt => pre217 _ (st218 _ kt)
  have F220 := F213.keep Kc218
  have F221 := F214.keep Kc218 (own_nm1 ne_b41_b211)
  have pre222 : ∀ t, Steps p.tables e below (T218.setTop (mkF m 58 #[rv b41, iv (0 : Int32), iv (2 : Int32), rv b211, iv (2 : Int32), .unset] [(.ref b211)])) t → Steps p.tables e below (s₁.setTop (entryFrame m #[(.ref b41), (.int (0 : Int32)), (.int (2 : Int32))] 6)) t := fun t kt => by
    refine pre219 _ ?_
    show Steps p.tables e below (T218.setTop (mkF m 12 #[rv b41, iv (0 : Int32), iv (2 : Int32), rv b211, .unset, .unset] [(.int (2 : Int32))])) _
    refine XS.istore X218.here hx rfl (hb hby d6_12) rfl (l' := #[rv b41, iv (0 : Int32), iv (2 : Int32), rv b211, iv (2 : Int32), .unset]) rfl ?_
    refine XS.iload X218.here hx rfl (hb hby d6_14) rfl ?_
    refine XS.iloadN X218.here hx rfl (hb hby d6_16) rfl ?_
    refine XS.icmpYes X218.here hx rfl (pc0 := 17) (pc' := 57) rfl (hb hby d6_17) rfl (XT.ii_eq_t (by decide)) (by decide) (by decide) ?_
    refine XS.aloadN X218.here hx rfl (hb hby d6_57) rfl rfl ?_
    exact kt
  obtain ⟨fs, hr, hrun, hended, hW, hsame⟩ := X218.leave (v := some (.ref b211)) (fun h => by rw [Bd.returns] at h; cases h)
  refine ⟨_, _, pre222 _ (X218.areturnOut hx rfl Bd.returns rfl (hb hby d6_58) hr), hrun, hended, _, _, rfl, ?_, ⟨_, rfl⟩, hW, hsame.mono (by decide) (by decide)⟩
  show Q_compress6_0 Z b41 c0 c1 k41 h0 n0 _ T218.heap _
  rw [e218]
  exact ⟨b211, k211, rfl, N218, K218, O218, J218_0, J218_1, sz_b211⟩
theorem pd_10 : parseMethodDescriptor "([CII)[B" = some ⟨[(.array .char), .int, .int], some (.array .byte)⟩ := by decide +kernel
theorem d4_39 : decode jdk_42_method_149_code 39 = .ok (.astore 5, 2) := by decide +kernel
theorem d4_41 : decode jdk_42_method_149_code 41 = .ok (.aload_n 0, 1) := by decide +kernel
theorem d4_42 : decode jdk_42_method_149_code 42 = .ok (.aload 5, 2) := by decide +kernel
theorem d4_44 : decode jdk_42_method_149_code 44 = .ok (.iload_n 3, 1) := by decide +kernel
theorem d4_45 : decode jdk_42_method_149_code 45 = .ok (.invokestatic 47, 3) := by decide +kernel
theorem d8_0 : decode jdk_52_method_15_code 0 = .ok (.iload_n 1, 1) := by decide +kernel
theorem d8_1 : decode jdk_52_method_15_code 1 = .ok (.aload_n 0, 1) := by decide +kernel
theorem d8_2 : decode jdk_52_method_15_code 2 = .ok (.arraylength, 1) := by decide +kernel
theorem d8_3 : decode jdk_52_method_15_code 3 = .ok (.isub, 1) := by decide +kernel
theorem d8_4 : decode jdk_52_method_15_code 4 = .ok (.bipush 31, 2) := by decide +kernel
theorem d8_6 : decode jdk_52_method_15_code 6 = .ok (.iushr, 1) := by decide +kernel
theorem d8_7 : decode jdk_52_method_15_code 7 = .ok (.i2b, 1) := by decide +kernel
theorem d8_8 : decode jdk_52_method_15_code 8 = .ok (.ireturn, 1) := by decide +kernel
theorem ef_11 (m : MethodId) (x0 : Addr) (x1 : Int32) : entryFrame m #[(.ref x0), (.int x1)] 2 = mkF m 0 #[.val (.ref x0), .val (.int x1)] [] := by first | (simp [entryFrame, mkF, argsToLocals, Value.category]; done) | rfl
def Q_coderFromArrayLen8_0 (Z : State) (b211_78 : Addr) (c0 : Int32) (c1 : Int32) (k211_78 : ClassId) (h0 : Heap) (n0 : Nat) (v : Option Value) (h : Heap) (L : List Loc) : Prop := v = some (.int (0 : Int32)) ∧ Fr n0 L ∧ h = h0
set_option maxRecDepth 65536 in
set_option maxHeartbeats 40000000 in
theorem rm_coderFromArrayLen8_0 (l : Launch) (Z : State) (a0 : Array Value) (hw : ∀ d ∈ tables_1, d.before a0 Z = true) (ws : List Jvm.Cond) (b211_78 : Addr) (c0 : Int32) (c1 : Int32) (k211_78 : ClassId) (h0 : Heap) (n0 : Nat) (O0 : Old Z n0 h0) (Fi0 : Arv Z h0 b211_78 k211_78 .byte (2 : Int32) [(.int (nar .byte ((nar .char (c0.toUInt32.toUInt16.toUInt32.toInt32)).toInt8.toInt32))), (.int (nar .byte ((nar .char (c1.toUInt32.toUInt16.toUInt32.toInt32)).toInt8.toInt32)))] (.int (0 : Int32))) :
    MetFree l (⟨"java/lang/StringUTF16", "coderFromArrayLen", "([BI)B"⟩ : MethodName) (head1 (Jvm.Cond.code (⟨"java/lang/StringUTF16", "coderFromArrayLen", "([BI)B"⟩ : MethodName) jdk_52_method_15_code 2 (some .byte) :: ws) ({ frames := 0, cells := 0, slots := 0, locals := 0 } : Room)) (fun a U => a = #[(.ref b211_78), (.int (2 : Int32))] ∧ Z.Warmed39 U.vm ∧ U.heap = h0) (fun _ _ _ _ _ => True) (fun _ U o U' => ∃ v L, o = .returned v ∧ Q_coderFromArrayLen8_0 Z b211_78 c0 c1 k211_78 h0 n0 v U'.heap L ∧ FrameEnd U o U' L ({ frames := 0, cells := 0, slots := 0, locals := 0 } : Room).cells ({ frames := 0, cells := 0, slots := 0, locals := 0 } : Room).slots) := by
  refine MetFree.of_bodySF (plainFor_of_name pn_6) hisR ?_
  intro p e s m args below meth c s₁ Bd hml0 hP hK
  have W := fun {d : Jvm.Cond} (i : Nat) (q : tables_1[i]? = some d) => hw d (List.mem_of_getElem? q)
  obtain ⟨rfl, hZ, hh⟩ := hP
  have hx := Bd.exec
  have hby := Bd.bytes
  have hml : c.maxLocals = 2 := hml0
  have hown : s.vm.findClass "java/lang/StringUTF16" = some m.cls := findClass_of_methodNamed Bd.named
  have hnm := (name_of_methodNamed Bd.named Bd.method).1
  have X0 : Stand p l e ({ frames := 0, cells := 0, slots := 0, locals := 0 } : Room) s m #[(.ref b211_78), (.int (2 : Int32))] below meth c s₁ [] 0 0 := Stand.of_body Bd
  have e0 : s₁.heap = h0 := by rw [← hh, Bd.state]; rfl
  have N0 := Fr.nil n0
  have pre0 : ∀ t, Steps p.tables e below (s₁.setTop (mkF m 0 #[rv b211_78, iv (2 : Int32)] [])) t → Steps p.tables e below (s₁.setTop (entryFrame m #[(.ref b211_78), (.int (2 : Int32))] 2)) t := fun t k => castTop (ef_11 m b211_78 (2 : Int32)) k
  have K0 : Keep h0 h0 [] := Keep.refl h0 []
  have pre238 : ∀ t, Steps p.tables e below (s₁.setTop (mkF m 2 #[rv b211_78, iv (2 : Int32)] [(.ref b211_78), (.int (2 : Int32))])) t → Steps p.tables e below (s₁.setTop (entryFrame m #[(.ref b211_78), (.int (2 : Int32))] 2)) t := fun t kt => by
    refine pre0 _ ?_
    show Steps p.tables e below (s₁.setTop (mkF m 0 #[rv b211_78, iv (2 : Int32)] [])) _
    refine XS.iloadN X0.here hx rfl (hb hby d8_0) rfl ?_
    refine XS.aloadN X0.here hx rfl (hb hby d8_1) rfl rfl ?_
    exact kt
  obtain ⟨c237, Ar237, -, S237, M237, -, -⟩ := id Fi0
  have pre239 : ∀ t, Steps p.tables e below (s₁.setTop (mkF m 8 #[rv b211_78, iv (2 : Int32)] [(.int (0 : Int32))])) t → Steps p.tables e below (s₁.setTop (entryFrame m #[(.ref b211_78), (.int (2 : Int32))] 2)) t := fun t kt => by
    refine pre238 _ ?_
    show Steps p.tables e below (s₁.setTop (mkF m 2 #[rv b211_78, iv (2 : Int32)] [(.ref b211_78), (.int (2 : Int32))])) _
    refine X0.arraylength hx (by rw [e0]; exact Ar237.1) (State.isArrayOf_alike hZ.alike Ar237.2.1) (g := (mkF m 2 #[rv b211_78, iv (2 : Int32)] [(.ref b211_78), (.int (2 : Int32))])) rfl rfl (hb hby d8_2) _ ?_
    rw [len_of S237 M237]
    refine XS.isub X0.here hx rfl (hb hby d8_3) rfl ?_
    show  Steps p.tables e below (s₁.setTop (mkF m 4 #[rv b211_78, iv (2 : Int32)] [(.int ((2 : Int32) - (2 : Int32)))])) _
    rw [(by decide : (((2 : Int32) - (2 : Int32)) : Int32) = (0 : Int32))]
    refine XS.bipush X0.here hx rfl (hb hby d8_4) ?_
    refine XS.iushr X0.here hx rfl (hb hby d8_6) rfl ?_
    show  Steps p.tables e below (s₁.setTop (mkF m 7 #[rv b211_78, iv (2 : Int32)] [(.int (((0 : Int32).toUInt32 >>> ((31 : Int32) &&& 31).toUInt32).toInt32))])) _
    rw [(by decide : ((((0 : Int32).toUInt32 >>> ((31 : Int32) &&& 31).toUInt32).toInt32) : Int32) = (0 : Int32))]
    refine XS.i2b X0.here hx rfl (hb hby d8_7) rfl ?_
    show  Steps p.tables e below (s₁.setTop (mkF m 8 #[rv b211_78, iv (2 : Int32)] [(.int ((0 : Int32).toInt8.toInt32))])) _
    rw [(by decide : (((0 : Int32).toInt8.toInt32) : Int32) = (0 : Int32))]
    exact kt
  obtain ⟨fs, hr, hrun, hended, hW, hsame⟩ := X0.leave (v := some (.int (0 : Int32))) (fun h => by rw [Bd.returns] at h; cases h)
  refine ⟨_, _, pre239 _ (retN X0 hx (t := .byte) Bd.returns (by simp) (hb hby d8_8) hr), hrun, hended, _, _, rfl, ?_, ⟨_, rfl⟩, hW, hsame.mono (by decide) (by decide)⟩
  show Q_coderFromArrayLen8_0 Z b211_78 c0 c1 k211_78 h0 n0 _ s₁.heap _
  rw [e0]
  exact ⟨rfl, N0, rfl⟩
theorem pd_12 : parseMethodDescriptor "([BI)B" = some ⟨[(.array .byte), .int], some .byte⟩ := by decide +kernel
theorem d4_48 : decode jdk_42_method_149_code 48 = .ok (.putfield 15, 3) := by decide +kernel
theorem d4_51 : decode jdk_42_method_149_code 51 = .ok (.aload_n 0, 1) := by decide +kernel
theorem d4_52 : decode jdk_42_method_149_code 52 = .ok (.aload 5, 2) := by decide +kernel
theorem d4_54 : decode jdk_42_method_149_code 54 = .ok (.putfield 9, 3) := by decide +kernel
theorem d4_57 : decode jdk_42_method_149_code 57 = .ok (.return_, 1) := by decide +kernel
theorem pn_13 : plainName "java/lang/String" = true := by first | (simp [plainName, overriddenIn]; done) | decide +kernel
theorem ef_14 (m : MethodId) (x0 : Addr) (x1 : Addr) (x2 : Int32) (x3 : Int32) : entryFrame m #[(.ref x0), (.ref x1), (.int x2), (.int x3), .null] 6 = mkF m 0 #[.val (.ref x0), .val (.ref x1), .val (.int x2), .val (.int x3), .val .null, .unset] [] := by first | (simp [entryFrame, mkF, argsToLocals, Value.category]; done) | rfl
def Q_init4_0 (Z : State) (b35 : Addr) (b41 : Addr) (cz : Int32) (c0 : Int32) (c1 : Int32) (k41 : ClassId) (h0 : Heap) (n0 : Nat) (v : Option Value) (h : Heap) (L : List Loc) : Prop := ∃ (b211_303 : Addr) (k211_303 : ClassId), v = none ∧ Fr n0 L ∧ Keep h0 h [b35] ∧ Old Z n0 h ∧ Exa Z h b35 "java/lang/String" ∧ Exa Z h b211_303 "[B" ∧ Arv Z h b211_303 k211_303 .byte (2 : Int32) [(.int (nar .byte ((nar .char (c0.toUInt32.toUInt16.toUInt32.toInt32)).toInt8.toInt32))), (.int (nar .byte ((nar .char (c1.toUInt32.toUInt16.toUInt32.toInt32)).toInt8.toInt32)))] (.int (0 : Int32)) ∧ Fld Z h b35 "java/lang/String" "coder" "B" (.int (0 : Int32)) ∧ Fld Z h b35 "java/lang/String" "value" "[B" (.ref b211_303) ∧ (h0.size ≤ b211_303)
set_option maxRecDepth 65536 in
set_option maxHeartbeats 40000000 in
theorem rm_init4_0 (l : Launch) (Z : State) (a0 : Array Value) (hw : ∀ d ∈ tables_1, d.before a0 Z = true) (ws : List Jvm.Cond) (b35 : Addr) (b41 : Addr) (cz : Int32) (c0 : Int32) (c1 : Int32) (k41 : ClassId) (h0 : Heap) (n0 : Nat) (O0 : Old Z n0 h0) (G0 : Sta Z Z.heap "java/lang/String" "COMPACT_STRINGS" "Z" (.int cz)) (g_b35 : n0 ≤ b35) (Fi0 : Exa Z h0 b35 "java/lang/String") (Fi1 : Fld Z h0 b35 "java/lang/String" "coder" "B" (.int (0 : Int32))) (Fi2 : Fld Z h0 b35 "java/lang/String" "value" "[B" .null) (Fi3 : Exa Z h0 b41 "[C") (Fi4 : Arv Z h0 b41 k41 .char (2 : Int32) [(.int (nar .char (c0.toUInt32.toUInt16.toUInt32.toInt32))), (.int (nar .char (c1.toUInt32.toUInt16.toUInt32.toInt32)))] (.int (0 : Int32))) (q0 : ¬ ((0 : Int32) = cz)) (q1 : own_u8 c0) (q2 : own_u8 c1) (q3 : ¬ (b41 = b35)) :
    MetFree l (⟨"java/lang/String", "<init>", "([CIILjava/lang/Void;)V"⟩ : MethodName) (head1 (Jvm.Cond.code (⟨"java/lang/String", "<init>", "([CIILjava/lang/Void;)V"⟩ : MethodName) jdk_42_method_149_code 6 none :: ws) ({ frames := 2, cells := 1, slots := 2, locals := 35 } : Room)) (fun a U => a = #[(.ref b35), (.ref b41), (.int (0 : Int32)), (.int (2 : Int32)), .null] ∧ Z.Warmed39 U.vm ∧ U.heap = h0) (fun _ _ _ _ _ => True) (fun _ U o U' => ∃ v L, o = .returned v ∧ Q_init4_0 Z b35 b41 cz c0 c1 k41 h0 n0 v U'.heap L ∧ FrameEnd U o U' L ({ frames := 2, cells := 1, slots := 2, locals := 35 } : Room).cells ({ frames := 2, cells := 1, slots := 2, locals := 35 } : Room).slots) := by
  refine MetFree.of_bodySF (plainFor_of_name pn_13) hisR ?_
  intro p e s m args below meth c s₁ Bd hml0 hP hK
  have W := fun {d : Jvm.Cond} (i : Nat) (q : tables_1[i]? = some d) => hw d (List.mem_of_getElem? q)
  obtain ⟨rfl, hZ, hh⟩ := hP
  have hx := Bd.exec
  have hby := Bd.bytes
  have hml : c.maxLocals = 6 := hml0
  have hown : s.vm.findClass "java/lang/String" = some m.cls := findClass_of_methodNamed Bd.named
  have hnm := (name_of_methodNamed Bd.named Bd.method).1
  have X0 : Stand p l e ({ frames := 2, cells := 1, slots := 2, locals := 35 } : Room) s m #[(.ref b35), (.ref b41), (.int (0 : Int32)), (.int (2 : Int32)), .null] below meth c s₁ [] 0 0 := Stand.of_body Bd
  have e0 : s₁.heap = h0 := by rw [← hh, Bd.state]; rfl
  have N0 := Fr.nil n0
  have pre0 : ∀ t, Steps p.tables e below (s₁.setTop (mkF m 0 #[rv b35, rv b41, iv (0 : Int32), iv (2 : Int32), .val .null, .unset] [])) t → Steps p.tables e below (s₁.setTop (entryFrame m #[(.ref b35), (.ref b41), (.int (0 : Int32)), (.int (2 : Int32)), .null] 6)) t := fun t k => castTop (ef_14 m b35 b41 (0 : Int32) (2 : Int32)) k
  have K0 : Keep h0 h0 [b35] := Keep.refl h0 [b35]
  have pre296 : ∀ t, Steps p.tables e below (s₁.setTop (mkF m 1 #[rv b35, rv b41, iv (0 : Int32), iv (2 : Int32), .val .null, .unset] [(.ref b35)])) t → Steps p.tables e below (s₁.setTop (entryFrame m #[(.ref b35), (.ref b41), (.int (0 : Int32)), (.int (2 : Int32)), .null] 6)) t := fun t kt => by
    refine pre0 _ ?_
    show Steps p.tables e below (s₁.setTop (mkF m 0 #[rv b35, rv b41, iv (0 : Int32), iv (2 : Int32), .val .null, .unset] [])) _
    refine XS.aloadN X0.here hx rfl (hb hby d4_0) rfl rfl ?_
    exact kt
  obtain ⟨T297, X297, e297, st297⟩ := initO X0 hx hZ hown (W 18 rfl) (W 19 rfl) (W 20 rfl) e0 (g := (mkF m 1 #[rv b35, rv b41, iv (0 : Int32), iv (2 : Int32), .val .null, .unset] [(.ref b35)])) rfl (by rw [hml]; rfl) rfl (hb hby d4_1) (by decide) (W := 0) (by show 2 * 0 + _ ≤ _; exact Nat.le_of_eq rfl) (by decide)
  have pre298 : ∀ t, Steps p.tables e below (T297.setTop (mkF m 4 #[rv b35, rv b41, iv (0 : Int32), iv (2 : Int32), .val .null, .unset] [])) t → Steps p.tables e below (s₁.setTop (entryFrame m #[(.ref b35), (.ref b41), (.int (0 : Int32)), (.int (2 : Int32)), .null] 6)) t := fun t kt => pre296 _ (st297 _ kt)
  have pre299 : ∀ t, Steps p.tables e below (T297.setTop (mkF m 27 #[rv b35, rv b41, iv (0 : Int32), iv (2 : Int32), .val .null, .unset] [])) t → Steps p.tables e below (s₁.setTop (entryFrame m #[(.ref b35), (.ref b41), (.int (0 : Int32)), (.int (2 : Int32)), .null] 6)) t := fun t kt => by
    refine pre298 _ ?_
    show Steps p.tables e below (T297.setTop (mkF m 4 #[rv b35, rv b41, iv (0 : Int32), iv (2 : Int32), .val .null, .unset] [])) _
    refine XS.iloadN X297.here hx rfl (hb hby d4_4) rfl ?_
    refine XS.ifYes X297.here hx rfl (pc0 := 5) (pc' := 27) rfl (hb hby d4_5) rfl (XT.i0_ne_t (by decide)) (by decide) (by decide) ?_
    exact kt
  obtain ⟨T300, X300, e300, st300⟩ := getS2 X297 hx hZ hown (host := "") (Or.inl (W 21 rfl)) Via.refl e297 (G0.ext O0.2) (g := (mkF m 27 #[rv b35, rv b41, iv (0 : Int32), iv (2 : Int32), .val .null, .unset] [])) rfl (hb hby d4_27)
  have pre301 : ∀ t, Steps p.tables e below (T300.setTop (mkF m 30 #[rv b35, rv b41, iv (0 : Int32), iv (2 : Int32), .val .null, .unset] [(.int cz)])) t → Steps p.tables e below (s₁.setTop (entryFrame m #[(.ref b35), (.ref b41), (.int (0 : Int32)), (.int (2 : Int32)), .null] 6)) t := fun t kt => pre299 _ (st300 _ kt)
  have pre302 : ∀ t, Steps p.tables e below (T300.setTop (mkF m 36 #[rv b35, rv b41, iv (0 : Int32), iv (2 : Int32), .val .null, .unset] [(.int (2 : Int32)), (.int (0 : Int32)), (.ref b41)])) t → Steps p.tables e below (s₁.setTop (entryFrame m #[(.ref b35), (.ref b41), (.int (0 : Int32)), (.int (2 : Int32)), .null] 6)) t := fun t kt => by
    refine pre301 _ ?_
    show Steps p.tables e below (T300.setTop (mkF m 30 #[rv b35, rv b41, iv (0 : Int32), iv (2 : Int32), .val .null, .unset] [(.int cz)])) _
    refine XS.ifNo X300.here hx rfl (hb hby d4_30) rfl (XT.i0_eq_f (fun q => q0 q.symm)) ?_
    refine XS.aloadN X300.here hx rfl (hb hby d4_33) rfl rfl ?_
    refine XS.iloadN X300.here hx rfl (hb hby d4_34) rfl ?_
    refine XS.iloadN X300.here hx rfl (hb hby d4_35) rfl ?_
    exact kt
  obtain ⟨_, _, ⟨T303, L303, k303, n303⟩, -, X303, ⟨Lc303, hQ303, l303, y303, z303⟩, st303⟩ := Jvm.LawKit.callS X300 hx (y := (⟨"java/lang/StringUTF16", "compress", "([CII)[B"⟩ : MethodName)) hown (mvT hZ (W 22 rfl)) (mvT hZ (W 23 rfl)) (mvT hZ (W 24 rfl)) (mvT hZ (W 25 rfl)) (by decide) (backOf (W := 0) (rm_compress6_0 l Z a0 hw [] b41 c0 c1 k41 h0 n0 O0 Fi3 Fi4 q1 q2) hZ (W 25 rfl) (W 24 rfl) (by decide) (by decide)) (g := (mkF m 36 #[rv b35, rv b41, iv (0 : Int32), iv (2 : Int32), .val .null, .unset] [(.int (2 : Int32)), (.int (0 : Int32)), (.ref b41)])) rfl (by rw [hml]; rfl) (argsL := [(.ref b41), (.int (0 : Int32)), (.int (2 : Int32))]) (rest := []) (lenOf pd_10 rfl) rfl (by show 2 * 0 + _ ≤ _; exact Nat.le_of_eq rfl) (hb hby d4_36) (fun _ _ => ⟨rfl, e300, (by decide : 0 + 1 ≤ _), (by decide : 0 + 2 ≤ _)⟩)
  dsimp only [Pt.U, Pt.locs, Pt.cells, Pt.slots] at X303 l303 y303 z303 st303 hQ303
  replace l303 := l303.symm
  replace y303 : 1 = k303 := y303.symm
  replace z303 : 2 = n303 := z303.symm
  subst l303 y303 z303
  obtain ⟨b211_303, k211_303, rfl, M303, Kc303, O303, J303_0, J303_1, P303_0⟩ := hQ303
  obtain ⟨h303, e303⟩ : ∃ z, T303.heap = z := ⟨_, rfl⟩
  rw [e303] at Kc303 O303 J303_0 J303_1
  try rw [e303] at P303_0
  have N303 := Fr.app N0 M303
  have K303 : Keep h0 h303 [b35] := K0.trans Kc303 (own_all0 )
  have pre304 : ∀ t, Steps p.tables e below (T303.setTop (mkF m 39 #[rv b35, rv b41, iv (0 : Int32), iv (2 : Int32), .val .null, .unset] [(.ref b211_303)])) t → Steps p.tables e below (s₁.setTop (entryFrame m #[(.ref b35), (.ref b41), (.int (0 : Int32)), (.int (2 : Int32)), .null] 6)) t := fun t kt => pre302 _ (st303 _ kt)
  have F305 := Fi0.keep Kc303
  have F306 := Fi1.keep Kc303 (own_nm0 )
  have F307 := Fi2.keep Kc303 (own_nm0 )
  have F308 := Fi3.keep Kc303
  have F309 := Fi4.keep Kc303 (own_nm0 )
  have sz_b211_303 : h0.size ≤ b211_303 := Nat.le_trans K0.1 P303_0
  have ne_b35_b211_303 : b35 ≠ b211_303 := Nat.ne_of_lt (Nat.lt_of_lt_of_le Fi0.lt P303_0)
  have ne_b41_b211_303 : b41 ≠ b211_303 := Nat.ne_of_lt (Nat.lt_of_lt_of_le Fi3.lt P303_0)
  have g_b211_303 : n0 ≤ b211_303 := Nat.le_trans (Nat.le_trans (Nat.le_of_eq O0.1.symm) O0.2.1) sz_b211_303
  have pre310 : ∀ t, Steps p.tables e below (T303.setTop (mkF m 45 #[rv b35, rv b41, iv (0 : Int32), iv (2 : Int32), .val .null, rv b211_303] [(.int (2 : Int32)), (.ref b211_303), (.ref b35)])) t → Steps p.tables e below (s₁.setTop (entryFrame m #[(.ref b35), (.ref b41), (.int (0 : Int32)), (.int (2 : Int32)), .null] 6)) t := fun t kt => by
    refine pre304 _ ?_
    show Steps p.tables e below (T303.setTop (mkF m 39 #[rv b35, rv b41, iv (0 : Int32), iv (2 : Int32), .val .null, .unset] [(.ref b211_303)])) _
    refine XS.astore X303.here hx rfl (hb hby d4_39) rfl rfl (l' := #[rv b35, rv b41, iv (0 : Int32), iv (2 : Int32), .val .null, rv b211_303]) rfl ?_
    refine XS.aloadN X303.here hx rfl (hb hby d4_41) rfl rfl ?_
    refine XS.aload X303.here hx rfl (hb hby d4_42) rfl rfl ?_
    refine XS.iloadN X303.here hx rfl (hb hby d4_44) rfl ?_
    exact kt
  obtain ⟨_, _, ⟨T311, L311, k311, n311⟩, -, X311, ⟨Lc311, hQ311, l311, y311, z311⟩, st311⟩ := Jvm.LawKit.callS X303 hx (y := (⟨"java/lang/StringUTF16", "coderFromArrayLen", "([BI)B"⟩ : MethodName)) hown (mvT hZ (W 30 rfl)) (mvT hZ (W 31 rfl)) (mvT hZ (W 24 rfl)) (mvT hZ (W 32 rfl)) (by decide) (backOf (W := 1) (rm_coderFromArrayLen8_0 l Z a0 hw [] b211_303 c0 c1 k211_303 h303 n0 O303 J303_1) hZ (W 32 rfl) (W 24 rfl) (by decide) (by decide)) (g := (mkF m 45 #[rv b35, rv b41, iv (0 : Int32), iv (2 : Int32), .val .null, rv b211_303] [(.int (2 : Int32)), (.ref b211_303), (.ref b35)])) rfl (by rw [hml]; rfl) (argsL := [(.ref b211_303), (.int (2 : Int32))]) (rest := [(.ref b35)]) (lenOf pd_12 rfl) rfl (by show 2 * 0 + _ ≤ _; exact Nat.le_of_eq rfl) (hb hby d4_45) (fun _ _ => ⟨rfl, e303, (by decide : 1 + 0 ≤ _), (by decide : 2 + 0 ≤ _)⟩)
  dsimp only [Pt.U, Pt.locs, Pt.cells, Pt.slots] at X311 l311 y311 z311 st311 hQ311
  replace l311 := l311.symm
  replace y311 : 1 = k311 := y311.symm
  replace z311 : 2 = n311 := z311.symm
  subst l311 y311 z311
  obtain ⟨rfl, M311, e311⟩ := hQ311
  have N311 := Fr.app N303 M311
  have pre312 : ∀ t, Steps p.tables e below (T311.setTop (mkF m 48 #[rv b35, rv b41, iv (0 : Int32), iv (2 : Int32), .val .null, rv b211_303] [(.int (0 : Int32)), (.ref b35)])) t → Steps p.tables e below (s₁.setTop (entryFrame m #[(.ref b35), (.ref b41), (.int (0 : Int32)), (.int (2 : Int32)), .null] 6)) t := fun t kt => pre310 _ (st311 _ kt)
  obtain ⟨T313, h313, X313, e313, W313, st313⟩ := putFN X311 hx hZ hown (W 33 rfl) Via.refl e311 F306 F305 (Or.inr ⟨(W 34 rfl), rfl, hnm⟩) (W 8 rfl) (ty := .byte) (v' := (.int (0 : Int32))) (by decide) rfl rfl (g := (mkF m 48 #[rv b35, rv b41, iv (0 : Int32), iv (2 : Int32), .val .null, rv b211_303] [(.int (0 : Int32)), (.ref b35)])) rfl rfl (hb hby d4_48)
  have pre314 : ∀ t, Steps p.tables e below (T313.setTop (mkF m 51 #[rv b35, rv b41, iv (0 : Int32), iv (2 : Int32), .val .null, rv b211_303] [])) t → Steps p.tables e below (s₁.setTop (entryFrame m #[(.ref b35), (.ref b41), (.int (0 : Int32)), (.int (2 : Int32)), .null] 6)) t := fun t kt => pre312 _ (st313 _ kt)
  have N313 := Fr.snoc X313 N311 g_b35
  have O313 := O303.wr W313 g_b35
  have K313 : Keep h0 h313 [b35] := K303.wr W313 (Or.inl (List.mem_of_getElem? (i := 0) rfl))
  have F315 := F305.wr W313
  have F316 := F307.other W313 (Or.inr (slot_ne (Or.inr (W 36 rfl)) (Or.inr (W 34 rfl)) (by decide) (t := (.array .byte)) (t' := .byte) (by decide) (by decide)))
  have F317 := F308.wr W313
  have F318 := F309.other W313 q3
  have F319 := J303_0.wr W313
  have F320 := J303_1.other W313 (fun q => ne_b35_b211_303 q.symm)
  have F321 : Fld Z h313 b35 "java/lang/String" "coder" "B" (.int (0 : Int32)) := F306.same W313
  have pre322 : ∀ t, Steps p.tables e below (T313.setTop (mkF m 54 #[rv b35, rv b41, iv (0 : Int32), iv (2 : Int32), .val .null, rv b211_303] [(.ref b211_303), (.ref b35)])) t → Steps p.tables e below (s₁.setTop (entryFrame m #[(.ref b35), (.ref b41), (.int (0 : Int32)), (.int (2 : Int32)), .null] 6)) t := fun t kt => by
    refine pre314 _ ?_
    show Steps p.tables e below (T313.setTop (mkF m 51 #[rv b35, rv b41, iv (0 : Int32), iv (2 : Int32), .val .null, rv b211_303] [])) _
    refine XS.aloadN X313.here hx rfl (hb hby d4_51) rfl rfl ?_
    refine XS.aload X313.here hx rfl (hb hby d4_52) rfl rfl ?_
    exact kt
  obtain ⟨T323, h323, X323, e323, W323, st323⟩ := putF X313 hx hZ hown (host := "") (Or.inl (W 35 rfl)) Via.refl e313 F316 F315 (Or.inr ⟨(W 36 rfl), rfl, hnm⟩) (W 8 rfl) (ty := (.array .byte)) (by decide) rfl rfl (g := (mkF m 54 #[rv b35, rv b41, iv (0 : Int32), iv (2 : Int32), .val .null, rv b211_303] [(.ref b211_303), (.ref b35)])) rfl rfl (hb hby d4_54)
  have pre324 : ∀ t, Steps p.tables e below (T323.setTop (mkF m 57 #[rv b35, rv b41, iv (0 : Int32), iv (2 : Int32), .val .null, rv b211_303] [])) t → Steps p.tables e below (s₁.setTop (entryFrame m #[(.ref b35), (.ref b41), (.int (0 : Int32)), (.int (2 : Int32)), .null] 6)) t := fun t kt => pre322 _ (st323 _ kt)
  have N323 := Fr.snoc X323 N313 g_b35
  have O323 := O313.wr W323 g_b35
  have K323 : Keep h0 h323 [b35] := K313.wr W323 (Or.inl (List.mem_of_getElem? (i := 0) rfl))
  have F325 := F315.wr W323
  have F326 := F317.wr W323
  have F327 := F318.other W323 q3
  have F328 := F319.wr W323
  have F329 := F320.other W323 (fun q => ne_b35_b211_303 q.symm)
  have F330 := F321.other W323 (Or.inr (slot_ne (Or.inr (W 34 rfl)) (Or.inr (W 36 rfl)) (by decide) (t := .byte) (t' := (.array .byte)) (by decide) (by decide)))
  have F331 : Fld Z h323 b35 "java/lang/String" "value" "[B" (.ref b211_303) := F316.same W323
  obtain ⟨fs, hr, hrun, hended, hW, hsame⟩ := X323.leave (v := none) (fun _ => rfl)
  refine ⟨_, _, pre324 _ (X323.returnOut hx Bd.returns (hb hby d4_57) hr), hrun, hended, _, _, rfl, ?_, ⟨_, rfl⟩, hW, hsame.mono (by decide) (by decide)⟩
  show Q_init4_0 Z b35 b41 cz c0 c1 k41 h0 n0 _ T323.heap _
  rw [e323]
  exact ⟨b211_303, k211_303, rfl, N323, K323, O323, F325, F328, F329, F330, F331, sz_b211_303⟩
theorem pd_15 : parseMethodDescriptor "([CIILjava/lang/Void;)V" = some ⟨[(.array .char), .int, .int, (.object "java/lang/Void")], none⟩ := by decide +kernel
theorem d3_9 : decode jdk_42_method_3_code 9 = .ok (.return_, 1) := by decide +kernel
theorem ef_16 (m : MethodId) (x0 : Addr) (x1 : Addr) : entryFrame m #[(.ref x0), (.ref x1)] 2 = mkF m 0 #[.val (.ref x0), .val (.ref x1)] [] := by first | (simp [entryFrame, mkF, argsToLocals, Value.category]; done) | rfl
def Q_init3_0 (Z : State) (b35 : Addr) (b41 : Addr) (cz : Int32) (c0 : Int32) (c1 : Int32) (k41 : ClassId) (h0 : Heap) (n0 : Nat) (v : Option Value) (h : Heap) (L : List Loc) : Prop := ∃ (b211_345 : Addr) (k211_345 : ClassId), v = none ∧ Fr n0 L ∧ Keep h0 h [b35] ∧ Old Z n0 h ∧ Exa Z h b35 "java/lang/String" ∧ Exa Z h b211_345 "[B" ∧ Arv Z h b211_345 k211_345 .byte (2 : Int32) [(.int (nar .byte ((nar .char (c0.toUInt32.toUInt16.toUInt32.toInt32)).toInt8.toInt32))), (.int (nar .byte ((nar .char (c1.toUInt32.toUInt16.toUInt32.toInt32)).toInt8.toInt32)))] (.int (0 : Int32)) ∧ Fld Z h b35 "java/lang/String" "coder" "B" (.int (0 : Int32)) ∧ Fld Z h b35 "java/lang/String" "value" "[B" (.ref b211_345) ∧ (h0.size ≤ b211_345)
set_option maxRecDepth 65536 in
set_option maxHeartbeats 40000000 in
theorem rm_init3_0 (l : Launch) (Z : State) (a0 : Array Value) (hw : ∀ d ∈ tables_1, d.before a0 Z = true) (ws : List Jvm.Cond) (b35 : Addr) (b41 : Addr) (cz : Int32) (c0 : Int32) (c1 : Int32) (k41 : ClassId) (h0 : Heap) (n0 : Nat) (O0 : Old Z n0 h0) (G0 : Sta Z Z.heap "java/lang/String" "COMPACT_STRINGS" "Z" (.int cz)) (g_b35 : n0 ≤ b35) (Fi0 : Exa Z h0 b35 "java/lang/String") (Fi1 : Fld Z h0 b35 "java/lang/String" "coder" "B" (.int (0 : Int32))) (Fi2 : Fld Z h0 b35 "java/lang/String" "value" "[B" .null) (Fi3 : Exa Z h0 b41 "[C") (Fi4 : Arv Z h0 b41 k41 .char (2 : Int32) [(.int (nar .char (c0.toUInt32.toUInt16.toUInt32.toInt32))), (.int (nar .char (c1.toUInt32.toUInt16.toUInt32.toInt32)))] (.int (0 : Int32))) (q0 : ¬ ((0 : Int32) = cz)) (q1 : own_u8 c0) (q2 : own_u8 c1) (q3 : ¬ (b41 = b35)) :
    MetFree l (⟨"java/lang/String", "<init>", "([C)V"⟩ : MethodName) (head1 (Jvm.Cond.code (⟨"java/lang/String", "<init>", "([C)V"⟩ : MethodName) jdk_42_method_3_code 2 none :: ws) ({ frames := 3, cells := 1, slots := 2, locals := 52 } : Room)) (fun a U => a = #[(.ref b35), (.ref b41)] ∧ Z.Warmed39 U.vm ∧ U.heap = h0) (fun _ _ _ _ _ => True) (fun _ U o U' => ∃ v L, o = .returned v ∧ Q_init3_0 Z b35 b41 cz c0 c1 k41 h0 n0 v U'.heap L ∧ FrameEnd U o U' L ({ frames := 3, cells := 1, slots := 2, locals := 52 } : Room).cells ({ frames := 3, cells := 1, slots := 2, locals := 52 } : Room).slots) := by
  refine MetFree.of_bodySF (plainFor_of_name pn_13) hisR ?_
  intro p e s m args below meth c s₁ Bd hml0 hP hK
  have W := fun {d : Jvm.Cond} (i : Nat) (q : tables_1[i]? = some d) => hw d (List.mem_of_getElem? q)
  obtain ⟨rfl, hZ, hh⟩ := hP
  have hx := Bd.exec
  have hby := Bd.bytes
  have hml : c.maxLocals = 2 := hml0
  have hown : s.vm.findClass "java/lang/String" = some m.cls := findClass_of_methodNamed Bd.named
  have hnm := (name_of_methodNamed Bd.named Bd.method).1
  have X0 : Stand p l e ({ frames := 3, cells := 1, slots := 2, locals := 52 } : Room) s m #[(.ref b35), (.ref b41)] below meth c s₁ [] 0 0 := Stand.of_body Bd
  have e0 : s₁.heap = h0 := by rw [← hh, Bd.state]; rfl
  have N0 := Fr.nil n0
  have pre0 : ∀ t, Steps p.tables e below (s₁.setTop (mkF m 0 #[rv b35, rv b41] [])) t → Steps p.tables e below (s₁.setTop (entryFrame m #[(.ref b35), (.ref b41)] 2)) t := fun t k => castTop (ef_16 m b35 b41) k
  have K0 : Keep h0 h0 [b35] := Keep.refl h0 [b35]
  have pre343 : ∀ t, Steps p.tables e below (s₁.setTop (mkF m 4 #[rv b35, rv b41] [(.ref b41), (.int (0 : Int32)), (.ref b41), (.ref b35)])) t → Steps p.tables e below (s₁.setTop (entryFrame m #[(.ref b35), (.ref b41)] 2)) t := fun t kt => by
    refine pre0 _ ?_
    show Steps p.tables e below (s₁.setTop (mkF m 0 #[rv b35, rv b41] [])) _
    refine XS.aloadN X0.here hx rfl (hb hby d3_0) rfl rfl ?_
    refine XS.aloadN X0.here hx rfl (hb hby d3_1) rfl rfl ?_
    refine XS.iconst X0.here hx rfl (hb hby d3_2) ?_
    refine XS.aloadN X0.here hx rfl (hb hby d3_3) rfl rfl ?_
    exact kt
  obtain ⟨c342, Ar342, -, S342, M342, -, -⟩ := id Fi4
  have pre344 : ∀ t, Steps p.tables e below (s₁.setTop (mkF m 6 #[rv b35, rv b41] [.null, (.int (2 : Int32)), (.int (0 : Int32)), (.ref b41), (.ref b35)])) t → Steps p.tables e below (s₁.setTop (entryFrame m #[(.ref b35), (.ref b41)] 2)) t := fun t kt => by
    refine pre343 _ ?_
    show Steps p.tables e below (s₁.setTop (mkF m 4 #[rv b35, rv b41] [(.ref b41), (.int (0 : Int32)), (.ref b41), (.ref b35)])) _
    refine X0.arraylength hx (by rw [e0]; exact Ar342.1) (State.isArrayOf_alike hZ.alike Ar342.2.1) (g := (mkF m 4 #[rv b35, rv b41] [(.ref b41), (.int (0 : Int32)), (.ref b41), (.ref b35)])) rfl rfl (hb hby d3_4) _ ?_
    rw [len_of S342 M342]
    refine XS.aconstNull X0.here hx rfl (hb hby d3_5) ?_
    exact kt
  obtain ⟨_, _, ⟨T345, L345, k345, n345⟩, -, X345, ⟨Lc345, hQ345, l345, y345, z345⟩, st345⟩ := X0.specialBack hx (y := (⟨"java/lang/String", "<init>", "([CIILjava/lang/Void;)V"⟩ : MethodName)) rfl hown (mvT hZ (W 14 rfl)) (mvT hZ (W 15 rfl)) (mvT hZ (W 17 rfl)) (by decide) (backOf (W := 0) (rm_init4_0 l Z a0 hw [] b35 b41 cz c0 c1 k41 h0 n0 O0 G0 g_b35 Fi0 Fi1 Fi2 Fi3 Fi4 q0 q1 q2 q3) hZ (W 17 rfl) (W 9 rfl) (by decide) (by decide)) (g := (mkF m 6 #[rv b35, rv b41] [.null, (.int (2 : Int32)), (.int (0 : Int32)), (.ref b41), (.ref b35)])) rfl (by rw [hml]; rfl) (Steps.refl _) (a := b35) (argsL := [(.ref b41), (.int (0 : Int32)), (.int (2 : Int32)), .null]) (rest := []) (lenOf pd_15 rfl) rfl (by show 2 * 0 + _ ≤ _; exact Nat.le_of_eq rfl) (hb hby d3_6) (fun _ _ => ⟨rfl, e0, (by decide : 0 + 1 ≤ _), (by decide : 0 + 2 ≤ _)⟩)
  dsimp only [Pt.U, Pt.locs, Pt.cells, Pt.slots] at X345 l345 y345 z345 st345 hQ345
  replace l345 := l345.symm
  replace y345 : 1 = k345 := y345.symm
  replace z345 : 2 = n345 := z345.symm
  subst l345 y345 z345
  obtain ⟨b211_345, k211_345, rfl, M345, Kc345, O345, J345_0, J345_1, J345_2, J345_3, J345_4, P345_0⟩ := hQ345
  obtain ⟨h345, e345⟩ : ∃ z, T345.heap = z := ⟨_, rfl⟩
  rw [e345] at Kc345 O345 J345_0 J345_1 J345_2 J345_3 J345_4
  try rw [e345] at P345_0
  have N345 := Fr.app N0 M345
  have K345 : Keep h0 h345 [b35] := K0.trans Kc345 (own_all1 (Or.inl (List.mem_of_getElem? (i := 0) rfl)))
  have pre346 : ∀ t, Steps p.tables e below (T345.setTop (mkF m 9 #[rv b35, rv b41] [])) t → Steps p.tables e below (s₁.setTop (entryFrame m #[(.ref b35), (.ref b41)] 2)) t := fun t kt => pre344 _ (st345.trans kt)
  have F347 := Fi3.keep Kc345
  have F348 := Fi4.keep Kc345 (own_nm1 q3)
  have sz_b211_345 : h0.size ≤ b211_345 := Nat.le_trans K0.1 P345_0
  have ne_b35_b211_345 : b35 ≠ b211_345 := Nat.ne_of_lt (Nat.lt_of_lt_of_le Fi0.lt P345_0)
  have ne_b41_b211_345 : b41 ≠ b211_345 := Nat.ne_of_lt (Nat.lt_of_lt_of_le Fi3.lt P345_0)
  have g_b211_345 : n0 ≤ b211_345 := Nat.le_trans (Nat.le_trans (Nat.le_of_eq O0.1.symm) O0.2.1) sz_b211_345
  obtain ⟨fs, hr, hrun, hended, hW, hsame⟩ := X345.leave (v := none) (fun _ => rfl)
  refine ⟨_, _, pre346 _ (X345.returnOut hx Bd.returns (hb hby d3_9) hr), hrun, hended, _, _, rfl, ?_, ⟨_, rfl⟩, hW, hsame.mono (by decide) (by decide)⟩
  show Q_init3_0 Z b35 b41 cz c0 c1 k41 h0 n0 _ T345.heap _
  rw [e345]
  exact ⟨b211_345, k211_345, rfl, N345, K345, O345, J345_0, J345_1, J345_2, J345_3, J345_4, sz_b211_345⟩
theorem pd_17 : parseMethodDescriptor "([C)V" = some ⟨[(.array .char)], none⟩ := by decide +kernel
theorem d2_24 : decode method_2_code 24 = .ok (.goto 18, 3) := by decide +kernel
theorem d2_42 : decode method_2_code 42 = .ok (.areturn, 1) := by decide +kernel
def Q_str2 (Z : State) (c0 : Int32) (c1 : Int32) (cz : Int32) (h0 : Heap) (n0 : Nat) (v : Option Value) (h : Heap) (L : List Loc) : Prop := ∃ (r : Addr), v = some (.ref r) ∧ Fr n0 L ∧ Keep h0 h [] ∧ Old Z n0 h ∧ own_str Z h r (1 : Int32) (own_b c0) (own_b c1) ∧ (h0.size ≤ r)
set_option maxRecDepth 65536 in
set_option maxHeartbeats 40000000 in
theorem rm_str2 (l : Launch) (Z : State) (a0 : Array Value) (hw : ∀ d ∈ tables_1, d.before a0 Z = true) (ws : List Jvm.Cond) (c0 : Int32) (c1 : Int32) (cz : Int32) (h0 : Heap) (n0 : Nat) (O0 : Old Z n0 h0) (G0 : Sta Z Z.heap "java/lang/String" "COMPACT_STRINGS" "Z" (.int cz)) (qz : ¬ (cz = (0 : Int32))) (u0 : own_u8 c0) (u1 : own_u8 c1) :
    MetFree l (⟨"com/example/homethread/homethread/cli/ScenarioReportExitStatusPinLaw", "str", "(IIZ)Ljava/lang/String;"⟩ : MethodName) (head1 (Jvm.Cond.code (⟨"com/example/homethread/homethread/cli/ScenarioReportExitStatusPinLaw", "str", "(IIZ)Ljava/lang/String;"⟩ : MethodName) method_2_code 3 (some (.object "java/lang/String")) :: ws) ({ frames := 4, cells := 3, slots := 8, locals := 66 } : Room)) (fun a U => a = #[(.int c0), (.int c1), (.int (1 : Int32))] ∧ Z.Warmed39 U.vm ∧ U.heap = h0) (fun _ _ _ _ _ => True) (fun _ U o U' => ∃ v L, o = .returned v ∧ Q_str2 Z c0 c1 cz h0 n0 v U'.heap L ∧ FrameEnd U o U' L ({ frames := 4, cells := 3, slots := 8, locals := 66 } : Room).cells ({ frames := 4, cells := 3, slots := 8, locals := 66 } : Room).slots) := by
  refine MetFree.of_bodySF (plainFor_of_name pn_0) hisR ?_
  intro p e s m args below meth c s₁ Bd hml0 hP hK
  have W := fun {d : Jvm.Cond} (i : Nat) (q : tables_1[i]? = some d) => hw d (List.mem_of_getElem? q)
  obtain ⟨rfl, hZ, hh⟩ := hP
  have hx := Bd.exec
  have hby := Bd.bytes
  have hml : c.maxLocals = 3 := hml0
  have hown : s.vm.findClass "com/example/homethread/homethread/cli/ScenarioReportExitStatusPinLaw" = some m.cls := findClass_of_methodNamed Bd.named
  have hnm := (name_of_methodNamed Bd.named Bd.method).1
  have X0 : Stand p l e ({ frames := 4, cells := 3, slots := 8, locals := 66 } : Room) s m #[(.int c0), (.int c1), (.int (1 : Int32))] below meth c s₁ [] 0 0 := Stand.of_body Bd
  have e0 : s₁.heap = h0 := by rw [← hh, Bd.state]; rfl
  have N0 := Fr.nil n0
  have pre0 : ∀ t, Steps p.tables e below (s₁.setTop (mkF m 0 #[iv c0, iv c1, iv (1 : Int32)] [])) t → Steps p.tables e below (s₁.setTop (entryFrame m #[(.int c0), (.int c1), (.int (1 : Int32))] 3)) t := fun t k => castTop (ef_5 m c0 c1 (1 : Int32)) k
  have K0 : Keep h0 h0 [] := Keep.refl h0 []
  have pre34 : ∀ t, Steps p.tables e below (s₁.setTop (mkF m 4 #[iv c0, iv c1, iv (1 : Int32)] [])) t → Steps p.tables e below (s₁.setTop (entryFrame m #[(.int c0), (.int c1), (.int (1 : Int32))] 3)) t := fun t kt => by
    refine pre0 _ ?_
    show Steps p.tables e below (s₁.setTop (mkF m 0 #[iv c0, iv c1, iv (1 : Int32)] [])) _
    refine XS.iloadN X0.here hx rfl (hb hby d2_0) rfl ?_
    refine XS.ifNo X0.here hx rfl (hb hby d2_1) rfl (XT.i0_eq_f (by decide)) ?_
    exact kt
  obtain ⟨T35, h35, X35, e35, E35, A35, D35, -, st35⟩ := newO X0 hx hZ hown (W 7 rfl) (W 8 rfl) (W 9 rfl) e0 (g := (mkF m 4 #[iv c0, iv c1, iv (1 : Int32)] [])) rfl (hb hby d2_4) (by decide) (by decide)
  obtain ⟨b35, g35⟩ : ∃ z, z = h0.size := ⟨_, rfl⟩
  rw [← g35] at A35 D35 st35
  have pre36 : ∀ t, Steps p.tables e below (T35.setTop (mkF m 7 #[iv c0, iv c1, iv (1 : Int32)] [(.ref b35)])) t → Steps p.tables e below (s₁.setTop (entryFrame m #[(.int c0), (.int c1), (.int (1 : Int32))] 3)) t := fun t kt => pre34 _ (st35 _ kt)
  have O35 := O0.ext E35
  have K35 : Keep h0 h35 [] := K0.ext E35
  have g_b35 : n0 ≤ b35 := Nat.le_trans (Nat.le_trans (Nat.le_of_eq O0.1.symm) O0.2.1) (Nat.le_of_eq g35.symm)
  have sz_b35 : h0.size ≤ b35 := Nat.le_trans K0.1 (Nat.le_of_eq g35.symm)
  have F37 : Exa Z h35 b35 "java/lang/String" := A35
  have F38 : Fld Z h35 b35 "java/lang/String" "coder" "B" (.int (0 : Int32)) := D35 (Or.inr (W 34 rfl)) (ty := .byte) (by decide)
  have F39 : Fld Z h35 b35 "java/lang/String" "value" "[B" .null := D35 (Or.inr (W 36 rfl)) (ty := (.array .byte)) (by decide)
  have pre40 : ∀ t, Steps p.tables e below (T35.setTop (mkF m 9 #[iv c0, iv c1, iv (1 : Int32)] [(.int (2 : Int32)), (.ref b35), (.ref b35)])) t → Steps p.tables e below (s₁.setTop (entryFrame m #[(.int c0), (.int c1), (.int (1 : Int32))] 3)) t := fun t kt => by
    refine pre36 _ ?_
    show Steps p.tables e below (T35.setTop (mkF m 7 #[iv c0, iv c1, iv (1 : Int32)] [(.ref b35)])) _
    refine XS.dup X35.here hx rfl (hb hby d2_7) rfl rfl ?_
    refine XS.iconst X35.here hx rfl (hb hby d2_8) ?_
    exact kt
  obtain ⟨T41, h41, k41, X41, e41, E41, A41, B41, st41⟩ := newPE X35 hx hZ (W 10 rfl) e35 (g := (mkF m 9 #[iv c0, iv c1, iv (1 : Int32)] [(.int (2 : Int32)), (.ref b35), (.ref b35)])) rfl (hb hby d2_9) rfl (by decide) (cap := 2) (by decide) (by decide) (by decide) (by decide) (ad := "[C") (by decide)
  obtain ⟨b41, g41⟩ : ∃ z, z = h35.size := ⟨_, rfl⟩
  rw [← g41] at A41 B41 st41
  have pre42 : ∀ t, Steps p.tables e below (T41.setTop (mkF m 11 #[iv c0, iv c1, iv (1 : Int32)] [(.ref b41), (.ref b35), (.ref b35)])) t → Steps p.tables e below (s₁.setTop (entryFrame m #[(.int c0), (.int c1), (.int (1 : Int32))] 3)) t := fun t kt => pre40 _ (st41 _ kt)
  have O41 := O35.ext E41
  have K41 : Keep h0 h41 [] := K35.ext E41
  have F43 := F37.ext E41
  have F44 := F38.ext E41
  have F45 := F39.ext E41
  have g_b41 : n0 ≤ b41 := Nat.le_trans (Nat.le_trans (Nat.le_of_eq O35.1.symm) O35.2.1) (Nat.le_of_eq g41.symm)
  have sz_b41 : h0.size ≤ b41 := Nat.le_trans K35.1 (Nat.le_of_eq g41.symm)
  have ne_b35_b41 : b35 ≠ b41 := Nat.ne_of_lt (Nat.lt_of_lt_of_le F37.lt (Nat.le_of_eq g41.symm))
  have F46 : Exa Z h41 b41 "[C" := B41
  have F47 : Arv Z h41 b41 k41 .char (2 : Int32) [(.int (0 : Int32)), (.int (0 : Int32))] (.int (0 : Int32)) := (Arv.new A41 (by decide)).pad (pad_rep [] (.int (0 : Int32)) 2)
  have pre48 : ∀ t, Steps p.tables e below (T41.setTop (mkF m 15 #[iv c0, iv c1, iv (1 : Int32)] [(.int (c0.toUInt32.toUInt16.toUInt32.toInt32)), (.int (0 : Int32)), (.ref b41), (.ref b41), (.ref b35), (.ref b35)])) t → Steps p.tables e below (s₁.setTop (entryFrame m #[(.int c0), (.int c1), (.int (1 : Int32))] 3)) t := fun t kt => by
    refine pre42 _ ?_
    show Steps p.tables e below (T41.setTop (mkF m 11 #[iv c0, iv c1, iv (1 : Int32)] [(.ref b41), (.ref b35), (.ref b35)])) _
    refine XS.dup X41.here hx rfl (hb hby d2_11) rfl rfl ?_
    refine XS.iconst X41.here hx rfl (hb hby d2_12) ?_
    refine XS.iloadN X41.here hx rfl (hb hby d2_13) rfl ?_
    refine XS.i2c X41.here hx rfl (hb hby d2_14) rfl ?_
    exact kt
  obtain ⟨c49, Ar49, q49, S49, M49, H49, G49⟩ := id F47
  have i49 : ¬ ((0 : Int32) < 0 ∨ c49.slots.size ≤ ((0 : Int32)).toNatClampNeg) := inb_of S49 ⟨by decide, by decide⟩
  obtain ⟨T50, h50, X50, e50, W50, st50⟩ := stC X41 hx hZ e41 Ar49 (j := (0 : Int32)) i49 (g := (mkF m 15 #[iv c0, iv c1, iv (1 : Int32)] [(.int (c0.toUInt32.toUInt16.toUInt32.toInt32)), (.int (0 : Int32)), (.ref b41), (.ref b41), (.ref b35), (.ref b35)])) rfl rfl (hb hby d2_15)
  have pre51 : ∀ t, Steps p.tables e below (T50.setTop (mkF m 16 #[iv c0, iv c1, iv (1 : Int32)] [(.ref b41), (.ref b35), (.ref b35)])) t → Steps p.tables e below (s₁.setTop (entryFrame m #[(.int c0), (.int c1), (.int (1 : Int32))] 3)) t := fun t kt => pre48 _ (st50 _ kt)
  have N50 := Fr.snoc X50 N0 g_b41
  have O50 := O41.wr W50 g_b41
  have K50 : Keep h0 h50 [] := K41.wr W50 (Or.inr sz_b41)
  have F52 := F43.wr W50
  have F53 := F44.other W50 (Or.inl ne_b35_b41)
  have F54 := F45.other W50 (Or.inl ne_b35_b41)
  have F55 := F46.wr W50
  have F56 : Arv Z h50 b41 k41 .char (2 : Int32) [(.int (nar .char (c0.toUInt32.toUInt16.toUInt32.toInt32))), (.int (0 : Int32))] (.int (0 : Int32)) := Arv.set Ar49 q49 S49 M49 H49 G49 (fits_nar_char _) W50 0 rfl (Nat.le_of_ble_eq_true rfl)
  have pre57 : ∀ t, Steps p.tables e below (T50.setTop (mkF m 20 #[iv c0, iv c1, iv (1 : Int32)] [(.int (c1.toUInt32.toUInt16.toUInt32.toInt32)), (.int (1 : Int32)), (.ref b41), (.ref b41), (.ref b35), (.ref b35)])) t → Steps p.tables e below (s₁.setTop (entryFrame m #[(.int c0), (.int c1), (.int (1 : Int32))] 3)) t := fun t kt => by
    refine pre51 _ ?_
    show Steps p.tables e below (T50.setTop (mkF m 16 #[iv c0, iv c1, iv (1 : Int32)] [(.ref b41), (.ref b35), (.ref b35)])) _
    refine XS.dup X50.here hx rfl (hb hby d2_16) rfl rfl ?_
    refine XS.iconst X50.here hx rfl (hb hby d2_17) ?_
    refine XS.iloadN X50.here hx rfl (hb hby d2_18) rfl ?_
    refine XS.i2c X50.here hx rfl (hb hby d2_19) rfl ?_
    exact kt
  obtain ⟨c58, Ar58, q58, S58, M58, H58, G58⟩ := id F56
  have i58 : ¬ ((1 : Int32) < 0 ∨ c58.slots.size ≤ ((1 : Int32)).toNatClampNeg) := inb_of S58 ⟨by decide, by decide⟩
  obtain ⟨T59, h59, X59, e59, W59, st59⟩ := stC X50 hx hZ e50 Ar58 (j := (1 : Int32)) i58 (g := (mkF m 20 #[iv c0, iv c1, iv (1 : Int32)] [(.int (c1.toUInt32.toUInt16.toUInt32.toInt32)), (.int (1 : Int32)), (.ref b41), (.ref b41), (.ref b35), (.ref b35)])) rfl rfl (hb hby d2_20)
  have pre60 : ∀ t, Steps p.tables e below (T59.setTop (mkF m 21 #[iv c0, iv c1, iv (1 : Int32)] [(.ref b41), (.ref b35), (.ref b35)])) t → Steps p.tables e below (s₁.setTop (entryFrame m #[(.int c0), (.int c1), (.int (1 : Int32))] 3)) t := fun t kt => pre57 _ (st59 _ kt)
  have N59 := Fr.snoc X59 N50 g_b41
  have O59 := O50.wr W59 g_b41
  have K59 : Keep h0 h59 [] := K50.wr W59 (Or.inr sz_b41)
  have F61 := F52.wr W59
  have F62 := F53.other W59 (Or.inl ne_b35_b41)
  have F63 := F54.other W59 (Or.inl ne_b35_b41)
  have F64 := F55.wr W59
  have F65 : Arv Z h59 b41 k41 .char (2 : Int32) [(.int (nar .char (c0.toUInt32.toUInt16.toUInt32.toInt32))), (.int (nar .char (c1.toUInt32.toUInt16.toUInt32.toInt32)))] (.int (0 : Int32)) := Arv.set Ar58 q58 S58 M58 H58 G58 (fits_nar_char _) W59 1 rfl (Nat.le_of_ble_eq_true rfl)
  obtain ⟨_, _, ⟨T66, L66, k66, n66⟩, -, X66, ⟨Lc66, hQ66, l66, y66, z66⟩, st66⟩ := X59.specialBack hx (y := (⟨"java/lang/String", "<init>", "([C)V"⟩ : MethodName)) rfl hown (mvT hZ (W 11 rfl)) (mvT hZ (W 12 rfl)) (mvT hZ (W 13 rfl)) (by decide) (backOf (W := 1) (rm_init3_0 l Z a0 hw [] b35 b41 cz c0 c1 k41 h59 n0 O59 G0 g_b35 F61 F62 F63 F64 F65 (fun q => qz q.symm) u0 u1 (fun q => ne_b35_b41 q.symm)) hZ (W 13 rfl) (W 9 rfl) (by decide) (by decide)) (g := (mkF m 21 #[iv c0, iv c1, iv (1 : Int32)] [(.ref b41), (.ref b35), (.ref b35)])) rfl (by rw [hml]; rfl) (Steps.refl _) (a := b35) (argsL := [(.ref b41)]) (rest := [(.ref b35)]) (lenOf pd_17 rfl) rfl (by show 2 * 0 + _ ≤ _; exact Nat.le_of_eq rfl) (hb hby d2_21) (fun _ _ => ⟨rfl, e59, (by decide : 2 + 1 ≤ _), (by decide : 6 + 2 ≤ _)⟩)
  dsimp only [Pt.U, Pt.locs, Pt.cells, Pt.slots] at X66 l66 y66 z66 st66 hQ66
  replace l66 := l66.symm
  replace y66 : 3 = k66 := y66.symm
  replace z66 : 8 = n66 := z66.symm
  subst l66 y66 z66
  obtain ⟨b211_66, k211_66, rfl, M66, Kc66, O66, J66_0, J66_1, J66_2, J66_3, J66_4, P66_0⟩ := hQ66
  obtain ⟨h66, e66⟩ : ∃ z, T66.heap = z := ⟨_, rfl⟩
  rw [e66] at Kc66 O66 J66_0 J66_1 J66_2 J66_3 J66_4
  try rw [e66] at P66_0
  have N66 := Fr.app N59 M66
  have K66 : Keep h0 h66 [] := K59.trans Kc66 (own_all1 (Or.inr sz_b35))
  have pre349 : ∀ t, Steps p.tables e below (T66.setTop (mkF m 24 #[iv c0, iv c1, iv (1 : Int32)] [(.ref b35)])) t → Steps p.tables e below (s₁.setTop (entryFrame m #[(.int c0), (.int c1), (.int (1 : Int32))] 3)) t := fun t kt => pre60 _ (st66.trans kt)
  have F350 := F64.keep Kc66
  have F351 := F65.keep Kc66 (own_nm1 (fun q => ne_b35_b41 q.symm))
  have sz_b211_66 : h0.size ≤ b211_66 := Nat.le_trans K59.1 P66_0
  have ne_b35_b211_66 : b35 ≠ b211_66 := Nat.ne_of_lt (Nat.lt_of_lt_of_le F61.lt P66_0)
  have ne_b41_b211_66 : b41 ≠ b211_66 := Nat.ne_of_lt (Nat.lt_of_lt_of_le F64.lt P66_0)
  have g_b211_66 : n0 ≤ b211_66 := Nat.le_trans (Nat.le_trans (Nat.le_of_eq O0.1.symm) O0.2.1) sz_b211_66
  have pre352 : ∀ t, Steps p.tables e below (T66.setTop (mkF m 42 #[iv c0, iv c1, iv (1 : Int32)] [(.ref b35)])) t → Steps p.tables e below (s₁.setTop (entryFrame m #[(.int c0), (.int c1), (.int (1 : Int32))] 3)) t := fun t kt => by
    refine pre349 _ ?_
    show Steps p.tables e below (T66.setTop (mkF m 24 #[iv c0, iv c1, iv (1 : Int32)] [(.ref b35)])) _
    refine XS.goto X66.here hx rfl (pc0 := 24) (pc' := 42) rfl (hb hby d2_24) (by decide) (by decide) ?_
    exact kt
  have F353 : own_str Z h66 b35 (1 : Int32) (own_b c0) (own_b c1) := ⟨b211_66, k211_66, _, J66_0, J66_3, J66_4, J66_2, rfl⟩
  obtain ⟨fs, hr, hrun, hended, hW, hsame⟩ := X66.leave (v := some (.ref b35)) (fun h => by rw [Bd.returns] at h; cases h)
  refine ⟨_, _, pre352 _ (X66.areturnOut hx rfl Bd.returns rfl (hb hby d2_42) hr), hrun, hended, _, _, rfl, ?_, ⟨_, rfl⟩, hW, hsame.mono (by decide) (by decide)⟩
  show Q_str2 Z c0 c1 cz h0 n0 _ T66.heap _
  rw [e66]
  exact ⟨b35, rfl, N66, K66, O66, F353, sz_b35⟩
theorem d2_27 : decode method_2_code 27 = .ok (.new 7, 3) := by decide +kernel
theorem d2_30 : decode method_2_code 30 = .ok (.dup, 1) := by decide +kernel
theorem d2_31 : decode method_2_code 31 = .ok (.iconst 1, 1) := by decide +kernel
theorem d2_32 : decode method_2_code 32 = .ok (.newarray .char, 2) := by decide +kernel
theorem d2_34 : decode method_2_code 34 = .ok (.dup, 1) := by decide +kernel
theorem d2_35 : decode method_2_code 35 = .ok (.iconst 0, 1) := by decide +kernel
theorem d2_36 : decode method_2_code 36 = .ok (.iload_n 0, 1) := by decide +kernel
theorem d2_37 : decode method_2_code 37 = .ok (.i2c, 1) := by decide +kernel
theorem d2_38 : decode method_2_code 38 = .ok (.castore, 1) := by decide +kernel
theorem d2_39 : decode method_2_code 39 = .ok (.invokespecial 9, 3) := by decide +kernel
def Q_compress7_1 (Z : State) (b361 : Addr) (b391 : Addr) (c0 : Int32) (k361 : ClassId) (k391 : ClassId) (h0 : Heap) (n0 : Nat) (v : Option Value) (h : Heap) (L : List Loc) : Prop := v = some (.int (1 : Int32)) ∧ Fr n0 L ∧ Keep h0 h [b391] ∧ Old Z n0 h ∧ Exa Z h b391 "[B" ∧ Arv Z h b391 k391 .byte (1 : Int32) [(.int (nar .byte ((nar .char (c0.toUInt32.toUInt16.toUInt32.toInt32)).toInt8.toInt32)))] (.int (0 : Int32))
set_option maxRecDepth 65536 in
set_option maxHeartbeats 40000000 in
theorem rm_compress7_1 (l : Launch) (Z : State) (a0 : Array Value) (hw : ∀ d ∈ tables_1, d.before a0 Z = true) (ws : List Jvm.Cond) (b361 : Addr) (b391 : Addr) (c0 : Int32) (k361 : ClassId) (k391 : ClassId) (h0 : Heap) (n0 : Nat) (O0 : Old Z n0 h0) (g_b391 : n0 ≤ b391) (Fi0 : Arv Z h0 b361 k361 .char (1 : Int32) [(.int (nar .char (c0.toUInt32.toUInt16.toUInt32.toInt32)))] (.int (0 : Int32))) (Fi1 : Exa Z h0 b391 "[B") (Fi2 : Arv Z h0 b391 k391 .byte (1 : Int32) [(.int (0 : Int32))] (.int (0 : Int32))) (q0 : own_u8 c0) (q1 : ¬ (b391 = b361)) :
    MetFree l (⟨"java/lang/StringUTF16", "compress", "([CI[BII)I"⟩ : MethodName) (head1 (Jvm.Cond.code (⟨"java/lang/StringUTF16", "compress", "([CI[BII)I"⟩ : MethodName) jdk_52_method_21_code 7 (some .int) :: ws) ({ frames := 0, cells := 0, slots := 0, locals := 0 } : Room)) (fun a U => a = #[(.ref b361), (.int (0 : Int32)), (.ref b391), (.int (0 : Int32)), (.int (1 : Int32))] ∧ Z.Warmed39 U.vm ∧ U.heap = h0) (fun _ _ _ _ _ => True) (fun _ U o U' => ∃ v L, o = .returned v ∧ Q_compress7_1 Z b361 b391 c0 k361 k391 h0 n0 v U'.heap L ∧ FrameEnd U o U' L ({ frames := 0, cells := 0, slots := 0, locals := 0 } : Room).cells ({ frames := 0, cells := 0, slots := 0, locals := 0 } : Room).slots) := by
  refine MetFree.of_bodySF (plainFor_of_name pn_6) hisR ?_
  intro p e s m args below meth c s₁ Bd hml0 hP hK
  have W := fun {d : Jvm.Cond} (i : Nat) (q : tables_1[i]? = some d) => hw d (List.mem_of_getElem? q)
  obtain ⟨rfl, hZ, hh⟩ := hP
  have hx := Bd.exec
  have hby := Bd.bytes
  have hml : c.maxLocals = 7 := hml0
  have hown : s.vm.findClass "java/lang/StringUTF16" = some m.cls := findClass_of_methodNamed Bd.named
  have hnm := (name_of_methodNamed Bd.named Bd.method).1
  have X0 : Stand p l e ({ frames := 0, cells := 0, slots := 0, locals := 0 } : Room) s m #[(.ref b361), (.int (0 : Int32)), (.ref b391), (.int (0 : Int32)), (.int (1 : Int32))] below meth c s₁ [] 0 0 := Stand.of_body Bd
  have e0 : s₁.heap = h0 := by rw [← hh, Bd.state]; rfl
  have N0 := Fr.nil n0
  have pre0 : ∀ t, Steps p.tables e below (s₁.setTop (mkF m 0 #[rv b361, iv (0 : Int32), rv b391, iv (0 : Int32), iv (1 : Int32), .unset, .unset] [])) t → Steps p.tables e below (s₁.setTop (entryFrame m #[(.ref b361), (.int (0 : Int32)), (.ref b391), (.int (0 : Int32)), (.int (1 : Int32))] 7)) t := fun t k => castTop (ef_7 m b361 (0 : Int32) b391 (0 : Int32) (1 : Int32)) k
  have K0 : Keep h0 h0 [b391] := Keep.refl h0 [b391]
  have pre437 : ∀ t, Steps p.tables e below (s₁.setTop (mkF m 12 #[rv b361, iv (0 : Int32), rv b391, iv (0 : Int32), iv (1 : Int32), iv (0 : Int32), .unset] [(.int (0 : Int32)), (.ref b361)])) t → Steps p.tables e below (s₁.setTop (entryFrame m #[(.ref b361), (.int (0 : Int32)), (.ref b391), (.int (0 : Int32)), (.int (1 : Int32))] 7)) t := fun t kt => by
    refine pre0 _ ?_
    show Steps p.tables e below (s₁.setTop (mkF m 0 #[rv b361, iv (0 : Int32), rv b391, iv (0 : Int32), iv (1 : Int32), .unset, .unset] [])) _
    refine XS.iconst X0.here hx rfl (hb hby d7_0) ?_
    refine XS.istore X0.here hx rfl (hb hby d7_1) rfl (l' := #[rv b361, iv (0 : Int32), rv b391, iv (0 : Int32), iv (1 : Int32), iv (0 : Int32), .unset]) rfl ?_
    refine XS.iload X0.here hx rfl (hb hby d7_3) rfl ?_
    refine XS.iload X0.here hx rfl (hb hby d7_5) rfl ?_
    refine XS.icmpNo X0.here hx rfl (hb hby d7_7) rfl (XT.ii_ge_f (by decide)) ?_
    refine XS.aloadN X0.here hx rfl (hb hby d7_10) rfl rfl ?_
    refine XS.iloadN X0.here hx rfl (hb hby d7_11) rfl ?_
    exact kt
  obtain ⟨c436, Ar436, q436, S436, M436, H436, G436⟩ := id Fi0
  have i436 : ¬ ((0 : Int32) < 0 ∨ c436.slots.size ≤ ((0 : Int32)).toNatClampNeg) := inb_of S436 ⟨by decide, by decide⟩
  have t436 : c436.slots[((0 : Int32)).toNatClampNeg]? = some (.int (nar .char (c0.toUInt32.toUInt16.toUInt32.toInt32))) := Has.at H436 i436 rfl
  have pre438 : ∀ t, Steps p.tables e below (s₁.setTop (mkF m 31 #[rv b361, iv (0 : Int32), rv b391, iv (0 : Int32), iv (1 : Int32), iv (0 : Int32), iv (nar .char (c0.toUInt32.toUInt16.toUInt32.toInt32))] [(.int ((nar .char (c0.toUInt32.toUInt16.toUInt32.toInt32)).toInt8.toInt32)), (.int (0 : Int32)), (.ref b391)])) t → Steps p.tables e below (s₁.setTop (entryFrame m #[(.ref b361), (.int (0 : Int32)), (.ref b391), (.int (0 : Int32)), (.int (1 : Int32))] 7)) t := fun t kt => by
    refine pre437 _ ?_
    show Steps p.tables e below (s₁.setTop (mkF m 12 #[rv b361, iv (0 : Int32), rv b391, iv (0 : Int32), iv (1 : Int32), iv (0 : Int32), .unset] [(.int (0 : Int32)), (.ref b361)])) _
    refine X0.caload hx (j := (0 : Int32)) (v := (.int (nar .char (c0.toUInt32.toUInt16.toUInt32.toInt32)))) (by rw [e0]; exact Ar436.1) (State.isArrayOf_alike hZ.alike Ar436.2.1) Ar436.2.2 i436 t436 (g := (mkF m 12 #[rv b361, iv (0 : Int32), rv b391, iv (0 : Int32), iv (1 : Int32), iv (0 : Int32), .unset] [(.int (0 : Int32)), (.ref b361)])) rfl rfl (hb hby d7_12) _ ?_
    refine XS.istore X0.here hx rfl (hb hby d7_13) rfl (l' := #[rv b361, iv (0 : Int32), rv b391, iv (0 : Int32), iv (1 : Int32), iv (0 : Int32), iv (nar .char (c0.toUInt32.toUInt16.toUInt32.toInt32))]) rfl ?_
    refine XS.iload X0.here hx rfl (hb hby d7_15) rfl ?_
    refine XS.sipush X0.here hx rfl (hb hby d7_17) ?_
    refine XS.icmpYes X0.here hx rfl (pc0 := 20) (pc' := 26) rfl (hb hby d7_20) rfl (XT.ii_le_t (own_ch255 q0)) (by decide) (by decide) ?_
    refine XS.aloadN X0.here hx rfl (hb hby d7_26) rfl rfl ?_
    refine XS.iloadN X0.here hx rfl (hb hby d7_27) rfl ?_
    refine XS.iload X0.here hx rfl (hb hby d7_28) rfl ?_
    show Steps p.tables e below (s₁.setTop (mkF m 30 #[rv b361, iv (0 : Int32), rv b391, iv (0 : Int32), iv (1 : Int32), iv (0 : Int32), iv (nar .char (c0.toUInt32.toUInt16.toUInt32.toInt32))] [(.int (nar .char (c0.toUInt32.toUInt16.toUInt32.toInt32))), (.int (0 : Int32)), (.ref b391)])) _
    refine XS.i2b X0.here hx rfl (hb hby d7_30) rfl ?_
    exact kt
  obtain ⟨c439, Ar439, q439, S439, M439, H439, G439⟩ := id Fi2
  have i439 : ¬ ((0 : Int32) < 0 ∨ c439.slots.size ≤ ((0 : Int32)).toNatClampNeg) := inb_of S439 ⟨by decide, by decide⟩
  obtain ⟨T440, h440, X440, e440, W440, st440⟩ := stB X0 hx hZ e0 Ar439 (j := (0 : Int32)) i439 (g := (mkF m 31 #[rv b361, iv (0 : Int32), rv b391, iv (0 : Int32), iv (1 : Int32), iv (0 : Int32), iv (nar .char (c0.toUInt32.toUInt16.toUInt32.toInt32))] [(.int ((nar .char (c0.toUInt32.toUInt16.toUInt32.toInt32)).toInt8.toInt32)), (.int (0 : Int32)), (.ref b391)])) rfl rfl (hb hby d7_31)
  have pre441 : ∀ t, Steps p.tables e below (T440.setTop (mkF m 32 #[rv b361, iv (0 : Int32), rv b391, iv (0 : Int32), iv (1 : Int32), iv (0 : Int32), iv (nar .char (c0.toUInt32.toUInt16.toUInt32.toInt32))] [])) t → Steps p.tables e below (s₁.setTop (entryFrame m #[(.ref b361), (.int (0 : Int32)), (.ref b391), (.int (0 : Int32)), (.int (1 : Int32))] 7)) t := fun t kt => pre438 _ (st440 _ kt)
  have N440 := Fr.snoc X440 N0 g_b391
  have O440 := O0.wr W440 g_b391
  have K440 : Keep h0 h440 [b391] := K0.wr W440 (Or.inl (List.mem_of_getElem? (i := 0) rfl))
  have F442 := Fi0.other W440 (fun q => q1 q.symm)
  have F443 := Fi1.wr W440
  have F444 : Arv Z h440 b391 k391 .byte (1 : Int32) [(.int (nar .byte ((nar .char (c0.toUInt32.toUInt16.toUInt32.toInt32)).toInt8.toInt32)))] (.int (0 : Int32)) := Arv.set Ar439 q439 S439 M439 H439 G439 (fits_nar_byte _) W440 0 rfl (Nat.le_of_ble_eq_true rfl)
  have pre445 : ∀ t, Steps p.tables e below (T440.setTop (mkF m 46 #[rv b361, iv (1 : Int32), rv b391, iv (1 : Int32), iv (1 : Int32), iv (1 : Int32), iv (nar .char (c0.toUInt32.toUInt16.toUInt32.toInt32))] [(.int (1 : Int32))])) t → Steps p.tables e below (s₁.setTop (entryFrame m #[(.ref b361), (.int (0 : Int32)), (.ref b391), (.int (0 : Int32)), (.int (1 : Int32))] 7)) t := fun t kt => by
    refine pre441 _ ?_
    show Steps p.tables e below (T440.setTop (mkF m 32 #[rv b361, iv (0 : Int32), rv b391, iv (0 : Int32), iv (1 : Int32), iv (0 : Int32), iv (nar .char (c0.toUInt32.toUInt16.toUInt32.toInt32))] [])) _
    refine XS.iinc X440.here hx rfl (hb hby d7_32) rfl (l' := #[rv b361, iv ((0 : Int32) + (1 : Int32)), rv b391, iv (0 : Int32), iv (1 : Int32), iv (0 : Int32), iv (nar .char (c0.toUInt32.toUInt16.toUInt32.toInt32))]) rfl ?_
    show  Steps p.tables e below (T440.setTop (mkF m 35 #[rv b361, iv ((0 : Int32) + (1 : Int32)), rv b391, iv (0 : Int32), iv (1 : Int32), iv (0 : Int32), iv (nar .char (c0.toUInt32.toUInt16.toUInt32.toInt32))] [])) _
    rw [(by decide : (((0 : Int32) + (1 : Int32)) : Int32) = (1 : Int32))]
    refine XS.iinc X440.here hx rfl (hb hby d7_35) rfl (l' := #[rv b361, iv (1 : Int32), rv b391, iv ((0 : Int32) + (1 : Int32)), iv (1 : Int32), iv (0 : Int32), iv (nar .char (c0.toUInt32.toUInt16.toUInt32.toInt32))]) rfl ?_
    show  Steps p.tables e below (T440.setTop (mkF m 38 #[rv b361, iv (1 : Int32), rv b391, iv ((0 : Int32) + (1 : Int32)), iv (1 : Int32), iv (0 : Int32), iv (nar .char (c0.toUInt32.toUInt16.toUInt32.toInt32))] [])) _
    rw [(by decide : (((0 : Int32) + (1 : Int32)) : Int32) = (1 : Int32))]
    refine XS.iinc X440.here hx rfl (hb hby d7_38) rfl (l' := #[rv b361, iv (1 : Int32), rv b391, iv (1 : Int32), iv (1 : Int32), iv ((0 : Int32) + (1 : Int32)), iv (nar .char (c0.toUInt32.toUInt16.toUInt32.toInt32))]) rfl ?_
    show  Steps p.tables e below (T440.setTop (mkF m 41 #[rv b361, iv (1 : Int32), rv b391, iv (1 : Int32), iv (1 : Int32), iv ((0 : Int32) + (1 : Int32)), iv (nar .char (c0.toUInt32.toUInt16.toUInt32.toInt32))] [])) _
    rw [(by decide : (((0 : Int32) + (1 : Int32)) : Int32) = (1 : Int32))]
    refine XS.goto X440.here hx rfl (pc0 := 41) (pc' := 3) rfl (hb hby d7_41) (by decide) (by decide) ?_
    refine XS.iload X440.here hx rfl (hb hby d7_3) rfl ?_
    refine XS.iload X440.here hx rfl (hb hby d7_5) rfl ?_
    refine XS.icmpYes X440.here hx rfl (pc0 := 7) (pc' := 44) rfl (hb hby d7_7) rfl (XT.ii_ge_t (by decide)) (by decide) (by decide) ?_
    refine XS.iload X440.here hx rfl (hb hby d7_44) rfl ?_
    exact kt
  obtain ⟨fs, hr, hrun, hended, hW, hsame⟩ := X440.leave (v := some (.int (1 : Int32))) (fun h => by rw [Bd.returns] at h; cases h)
  refine ⟨_, _, pre445 _ (retI X440 hx Bd.returns (hb hby d7_46) hr), hrun, hended, _, _, rfl, ?_, ⟨_, rfl⟩, hW, hsame.mono (by decide) (by decide)⟩
  show Q_compress7_1 Z b361 b391 c0 k361 k391 h0 n0 _ T440.heap _
  rw [e440]
  exact ⟨rfl, N440, K440, O440, F443, F444⟩
def Q_compress6_1 (Z : State) (b361 : Addr) (c0 : Int32) (k361 : ClassId) (h0 : Heap) (n0 : Nat) (v : Option Value) (h : Heap) (L : List Loc) : Prop := ∃ (b482 : Addr) (k482 : ClassId), v = some (.ref b482) ∧ Fr n0 L ∧ Keep h0 h [] ∧ Old Z n0 h ∧ Exa Z h b482 "[B" ∧ Arv Z h b482 k482 .byte (1 : Int32) [(.int (nar .byte ((nar .char (c0.toUInt32.toUInt16.toUInt32.toInt32)).toInt8.toInt32)))] (.int (0 : Int32)) ∧ (h0.size ≤ b482)
set_option maxRecDepth 65536 in
set_option maxHeartbeats 40000000 in
theorem rm_compress6_1 (l : Launch) (Z : State) (a0 : Array Value) (hw : ∀ d ∈ tables_1, d.before a0 Z = true) (ws : List Jvm.Cond) (b361 : Addr) (c0 : Int32) (k361 : ClassId) (h0 : Heap) (n0 : Nat) (O0 : Old Z n0 h0) (Fi0 : Exa Z h0 b361 "[C") (Fi1 : Arv Z h0 b361 k361 .char (1 : Int32) [(.int (nar .char (c0.toUInt32.toUInt16.toUInt32.toInt32)))] (.int (0 : Int32))) (q0 : own_u8 c0) :
    MetFree l (⟨"java/lang/StringUTF16", "compress", "([CII)[B"⟩ : MethodName) (head1 (Jvm.Cond.code (⟨"java/lang/StringUTF16", "compress", "([CII)[B"⟩ : MethodName) jdk_52_method_16_code 6 (some (.array .byte)) :: ws) ({ frames := 1, cells := 1, slots := 1, locals := 18 } : Room)) (fun a U => a = #[(.ref b361), (.int (0 : Int32)), (.int (1 : Int32))] ∧ Z.Warmed39 U.vm ∧ U.heap = h0) (fun _ _ _ _ _ => True) (fun _ U o U' => ∃ v L, o = .returned v ∧ Q_compress6_1 Z b361 c0 k361 h0 n0 v U'.heap L ∧ FrameEnd U o U' L ({ frames := 1, cells := 1, slots := 1, locals := 18 } : Room).cells ({ frames := 1, cells := 1, slots := 1, locals := 18 } : Room).slots) := by
  refine MetFree.of_bodySF (plainFor_of_name pn_6) hisR ?_
  intro p e s m args below meth c s₁ Bd hml0 hP hK
  have W := fun {d : Jvm.Cond} (i : Nat) (q : tables_1[i]? = some d) => hw d (List.mem_of_getElem? q)
  obtain ⟨rfl, hZ, hh⟩ := hP
  have hx := Bd.exec
  have hby := Bd.bytes
  have hml : c.maxLocals = 6 := hml0
  have hown : s.vm.findClass "java/lang/StringUTF16" = some m.cls := findClass_of_methodNamed Bd.named
  have hnm := (name_of_methodNamed Bd.named Bd.method).1
  have X0 : Stand p l e ({ frames := 1, cells := 1, slots := 1, locals := 18 } : Room) s m #[(.ref b361), (.int (0 : Int32)), (.int (1 : Int32))] below meth c s₁ [] 0 0 := Stand.of_body Bd
  have e0 : s₁.heap = h0 := by rw [← hh, Bd.state]; rfl
  have N0 := Fr.nil n0
  have pre0 : ∀ t, Steps p.tables e below (s₁.setTop (mkF m 0 #[rv b361, iv (0 : Int32), iv (1 : Int32), .unset, .unset, .unset] [])) t → Steps p.tables e below (s₁.setTop (entryFrame m #[(.ref b361), (.int (0 : Int32)), (.int (1 : Int32))] 6)) t := fun t k => castTop (ef_9 m b361 (0 : Int32) (1 : Int32)) k
  have K0 : Keep h0 h0 [] := Keep.refl h0 []
  have pre481 : ∀ t, Steps p.tables e below (s₁.setTop (mkF m 1 #[rv b361, iv (0 : Int32), iv (1 : Int32), .unset, .unset, .unset] [(.int (1 : Int32))])) t → Steps p.tables e below (s₁.setTop (entryFrame m #[(.ref b361), (.int (0 : Int32)), (.int (1 : Int32))] 6)) t := fun t kt => by
    refine pre0 _ ?_
    show Steps p.tables e below (s₁.setTop (mkF m 0 #[rv b361, iv (0 : Int32), iv (1 : Int32), .unset, .unset, .unset] [])) _
    refine XS.iloadN X0.here hx rfl (hb hby d6_0) rfl ?_
    exact kt
  obtain ⟨T482, h482, k482, X482, e482, E482, A482, B482, st482⟩ := newPE X0 hx hZ (W 26 rfl) e0 (g := (mkF m 1 #[rv b361, iv (0 : Int32), iv (1 : Int32), .unset, .unset, .unset] [(.int (1 : Int32))])) rfl (hb hby d6_1) rfl (by decide) (cap := 1) (by decide) (by decide) (by decide) (by decide) (ad := "[B") (by decide)
  obtain ⟨b482, g482⟩ : ∃ z, z = h0.size := ⟨_, rfl⟩
  rw [← g482] at A482 B482 st482
  have pre483 : ∀ t, Steps p.tables e below (T482.setTop (mkF m 3 #[rv b361, iv (0 : Int32), iv (1 : Int32), .unset, .unset, .unset] [(.ref b482)])) t → Steps p.tables e below (s₁.setTop (entryFrame m #[(.ref b361), (.int (0 : Int32)), (.int (1 : Int32))] 6)) t := fun t kt => pre481 _ (st482 _ kt)
  have O482 := O0.ext E482
  have K482 : Keep h0 h482 [] := K0.ext E482
  have F484 := Fi0.ext E482
  have F485 := Fi1.ext E482
  have g_b482 : n0 ≤ b482 := Nat.le_trans (Nat.le_trans (Nat.le_of_eq O0.1.symm) O0.2.1) (Nat.le_of_eq g482.symm)
  have sz_b482 : h0.size ≤ b482 := Nat.le_trans K0.1 (Nat.le_of_eq g482.symm)
  have ne_b361_b482 : b361 ≠ b482 := Nat.ne_of_lt (Nat.lt_of_lt_of_le Fi0.lt (Nat.le_of_eq g482.symm))
  have F486 : Exa Z h482 b482 "[B" := B482
  have F487 : Arv Z h482 b482 k482 .byte (1 : Int32) [(.int (0 : Int32))] (.int (0 : Int32)) := (Arv.new A482 (by decide)).pad (pad_rep [] (.int (0 : Int32)) 1)
  have pre488 : ∀ t, Steps p.tables e below (T482.setTop (mkF m 9 #[rv b361, iv (0 : Int32), iv (1 : Int32), rv b482, .unset, .unset] [(.int (1 : Int32)), (.int (0 : Int32)), (.ref b482), (.int (0 : Int32)), (.ref b361)])) t → Steps p.tables e below (s₁.setTop (entryFrame m #[(.ref b361), (.int (0 : Int32)), (.int (1 : Int32))] 6)) t := fun t kt => by
    refine pre483 _ ?_
    show Steps p.tables e below (T482.setTop (mkF m 3 #[rv b361, iv (0 : Int32), iv (1 : Int32), .unset, .unset, .unset] [(.ref b482)])) _
    refine XS.astoreN X482.here hx rfl (hb hby d6_3) rfl rfl (l' := #[rv b361, iv (0 : Int32), iv (1 : Int32), rv b482, .unset, .unset]) rfl ?_
    refine XS.aloadN X482.here hx rfl (hb hby d6_4) rfl rfl ?_
    refine XS.iloadN X482.here hx rfl (hb hby d6_5) rfl ?_
    refine XS.aloadN X482.here hx rfl (hb hby d6_6) rfl rfl ?_
    refine XS.iconst X482.here hx rfl (hb hby d6_7) ?_
    refine XS.iloadN X482.here hx rfl (hb hby d6_8) rfl ?_
    exact kt
  obtain ⟨_, _, ⟨T489, L489, k489, n489⟩, -, X489, ⟨Lc489, hQ489, l489, y489, z489⟩, st489⟩ := Jvm.LawKit.callS X482 hx (y := (⟨"java/lang/StringUTF16", "compress", "([CI[BII)I"⟩ : MethodName)) hown (mvT hZ (W 27 rfl)) (mvT hZ (W 28 rfl)) (mvT hZ (W 24 rfl)) (mvT hZ (W 29 rfl)) (by decide) (backOf (W := 0) (rm_compress7_1 l Z a0 hw [] b361 b482 c0 k361 k482 h482 n0 O482 g_b482 F485 F486 F487 q0 (fun q => ne_b361_b482 q.symm)) hZ (W 29 rfl) (W 24 rfl) (by decide) (by decide)) (g := (mkF m 9 #[rv b361, iv (0 : Int32), iv (1 : Int32), rv b482, .unset, .unset] [(.int (1 : Int32)), (.int (0 : Int32)), (.ref b482), (.int (0 : Int32)), (.ref b361)])) rfl (by rw [hml]; rfl) (argsL := [(.ref b361), (.int (0 : Int32)), (.ref b482), (.int (0 : Int32)), (.int (1 : Int32))]) (rest := []) (lenOf pd_8 rfl) rfl (by show 2 * 0 + _ ≤ _; exact Nat.le_of_eq rfl) (hb hby d6_9) (fun _ _ => ⟨rfl, e482, (by decide : 1 + 0 ≤ _), (by decide : 1 + 0 ≤ _)⟩)
  dsimp only [Pt.U, Pt.locs, Pt.cells, Pt.slots] at X489 l489 y489 z489 st489 hQ489
  replace l489 := l489.symm
  replace y489 : 1 = k489 := y489.symm
  replace z489 : 1 = n489 := z489.symm
  subst l489 y489 z489
  obtain ⟨rfl, M489, Kc489, O489, J489_0, J489_1⟩ := hQ489
  obtain ⟨h489, e489⟩ : ∃ z, T489.heap = z := ⟨_, rfl⟩
  rw [e489] at Kc489 O489 J489_0 J489_1
  have N489 := Fr.app N0 M489
  have K489 : Keep h0 h489 [] := K482.trans Kc489 (own_all1 (Or.inr sz_b482))
  have pre490 : ∀ t, Steps p.tables e below (T489.setTop (mkF m 12 #[rv b361, iv (0 : Int32), iv (1 : Int32), rv b482, .unset, .unset] [(.int (1 : Int32))])) t → Steps p.tables e below (s₁.setTop (entryFrame m #[(.ref b361), (.int (0 : Int32)), (.int (1 : Int32))] 6)) t := fun t kt => pre488 _ (st489 _ kt)
  have F491 := F484.keep Kc489
  have F492 := F485.keep Kc489 (own_nm1 ne_b361_b482)
  have pre493 : ∀ t, Steps p.tables e below (T489.setTop (mkF m 58 #[rv b361, iv (0 : Int32), iv (1 : Int32), rv b482, iv (1 : Int32), .unset] [(.ref b482)])) t → Steps p.tables e below (s₁.setTop (entryFrame m #[(.ref b361), (.int (0 : Int32)), (.int (1 : Int32))] 6)) t := fun t kt => by
    refine pre490 _ ?_
    show Steps p.tables e below (T489.setTop (mkF m 12 #[rv b361, iv (0 : Int32), iv (1 : Int32), rv b482, .unset, .unset] [(.int (1 : Int32))])) _
    refine XS.istore X489.here hx rfl (hb hby d6_12) rfl (l' := #[rv b361, iv (0 : Int32), iv (1 : Int32), rv b482, iv (1 : Int32), .unset]) rfl ?_
    refine XS.iload X489.here hx rfl (hb hby d6_14) rfl ?_
    refine XS.iloadN X489.here hx rfl (hb hby d6_16) rfl ?_
    refine XS.icmpYes X489.here hx rfl (pc0 := 17) (pc' := 57) rfl (hb hby d6_17) rfl (XT.ii_eq_t (by decide)) (by decide) (by decide) ?_
    refine XS.aloadN X489.here hx rfl (hb hby d6_57) rfl rfl ?_
    exact kt
  obtain ⟨fs, hr, hrun, hended, hW, hsame⟩ := X489.leave (v := some (.ref b482)) (fun h => by rw [Bd.returns] at h; cases h)
  refine ⟨_, _, pre493 _ (X489.areturnOut hx rfl Bd.returns rfl (hb hby d6_58) hr), hrun, hended, _, _, rfl, ?_, ⟨_, rfl⟩, hW, hsame.mono (by decide) (by decide)⟩
  show Q_compress6_1 Z b361 c0 k361 h0 n0 _ T489.heap _
  rw [e489]
  exact ⟨b482, k482, rfl, N489, K489, O489, J489_0, J489_1, sz_b482⟩
def Q_coderFromArrayLen8_1 (Z : State) (b482_389 : Addr) (c0 : Int32) (k482_389 : ClassId) (h0 : Heap) (n0 : Nat) (v : Option Value) (h : Heap) (L : List Loc) : Prop := v = some (.int (0 : Int32)) ∧ Fr n0 L ∧ h = h0
set_option maxRecDepth 65536 in
set_option maxHeartbeats 40000000 in
theorem rm_coderFromArrayLen8_1 (l : Launch) (Z : State) (a0 : Array Value) (hw : ∀ d ∈ tables_1, d.before a0 Z = true) (ws : List Jvm.Cond) (b482_389 : Addr) (c0 : Int32) (k482_389 : ClassId) (h0 : Heap) (n0 : Nat) (O0 : Old Z n0 h0) (Fi0 : Arv Z h0 b482_389 k482_389 .byte (1 : Int32) [(.int (nar .byte ((nar .char (c0.toUInt32.toUInt16.toUInt32.toInt32)).toInt8.toInt32)))] (.int (0 : Int32))) :
    MetFree l (⟨"java/lang/StringUTF16", "coderFromArrayLen", "([BI)B"⟩ : MethodName) (head1 (Jvm.Cond.code (⟨"java/lang/StringUTF16", "coderFromArrayLen", "([BI)B"⟩ : MethodName) jdk_52_method_15_code 2 (some .byte) :: ws) ({ frames := 0, cells := 0, slots := 0, locals := 0 } : Room)) (fun a U => a = #[(.ref b482_389), (.int (1 : Int32))] ∧ Z.Warmed39 U.vm ∧ U.heap = h0) (fun _ _ _ _ _ => True) (fun _ U o U' => ∃ v L, o = .returned v ∧ Q_coderFromArrayLen8_1 Z b482_389 c0 k482_389 h0 n0 v U'.heap L ∧ FrameEnd U o U' L ({ frames := 0, cells := 0, slots := 0, locals := 0 } : Room).cells ({ frames := 0, cells := 0, slots := 0, locals := 0 } : Room).slots) := by
  refine MetFree.of_bodySF (plainFor_of_name pn_6) hisR ?_
  intro p e s m args below meth c s₁ Bd hml0 hP hK
  have W := fun {d : Jvm.Cond} (i : Nat) (q : tables_1[i]? = some d) => hw d (List.mem_of_getElem? q)
  obtain ⟨rfl, hZ, hh⟩ := hP
  have hx := Bd.exec
  have hby := Bd.bytes
  have hml : c.maxLocals = 2 := hml0
  have hown : s.vm.findClass "java/lang/StringUTF16" = some m.cls := findClass_of_methodNamed Bd.named
  have hnm := (name_of_methodNamed Bd.named Bd.method).1
  have X0 : Stand p l e ({ frames := 0, cells := 0, slots := 0, locals := 0 } : Room) s m #[(.ref b482_389), (.int (1 : Int32))] below meth c s₁ [] 0 0 := Stand.of_body Bd
  have e0 : s₁.heap = h0 := by rw [← hh, Bd.state]; rfl
  have N0 := Fr.nil n0
  have pre0 : ∀ t, Steps p.tables e below (s₁.setTop (mkF m 0 #[rv b482_389, iv (1 : Int32)] [])) t → Steps p.tables e below (s₁.setTop (entryFrame m #[(.ref b482_389), (.int (1 : Int32))] 2)) t := fun t k => castTop (ef_11 m b482_389 (1 : Int32)) k
  have K0 : Keep h0 h0 [] := Keep.refl h0 []
  have pre509 : ∀ t, Steps p.tables e below (s₁.setTop (mkF m 2 #[rv b482_389, iv (1 : Int32)] [(.ref b482_389), (.int (1 : Int32))])) t → Steps p.tables e below (s₁.setTop (entryFrame m #[(.ref b482_389), (.int (1 : Int32))] 2)) t := fun t kt => by
    refine pre0 _ ?_
    show Steps p.tables e below (s₁.setTop (mkF m 0 #[rv b482_389, iv (1 : Int32)] [])) _
    refine XS.iloadN X0.here hx rfl (hb hby d8_0) rfl ?_
    refine XS.aloadN X0.here hx rfl (hb hby d8_1) rfl rfl ?_
    exact kt
  obtain ⟨c508, Ar508, -, S508, M508, -, -⟩ := id Fi0
  have pre510 : ∀ t, Steps p.tables e below (s₁.setTop (mkF m 8 #[rv b482_389, iv (1 : Int32)] [(.int (0 : Int32))])) t → Steps p.tables e below (s₁.setTop (entryFrame m #[(.ref b482_389), (.int (1 : Int32))] 2)) t := fun t kt => by
    refine pre509 _ ?_
    show Steps p.tables e below (s₁.setTop (mkF m 2 #[rv b482_389, iv (1 : Int32)] [(.ref b482_389), (.int (1 : Int32))])) _
    refine X0.arraylength hx (by rw [e0]; exact Ar508.1) (State.isArrayOf_alike hZ.alike Ar508.2.1) (g := (mkF m 2 #[rv b482_389, iv (1 : Int32)] [(.ref b482_389), (.int (1 : Int32))])) rfl rfl (hb hby d8_2) _ ?_
    rw [len_of S508 M508]
    refine XS.isub X0.here hx rfl (hb hby d8_3) rfl ?_
    show  Steps p.tables e below (s₁.setTop (mkF m 4 #[rv b482_389, iv (1 : Int32)] [(.int ((1 : Int32) - (1 : Int32)))])) _
    rw [(by decide : (((1 : Int32) - (1 : Int32)) : Int32) = (0 : Int32))]
    refine XS.bipush X0.here hx rfl (hb hby d8_4) ?_
    refine XS.iushr X0.here hx rfl (hb hby d8_6) rfl ?_
    show  Steps p.tables e below (s₁.setTop (mkF m 7 #[rv b482_389, iv (1 : Int32)] [(.int (((0 : Int32).toUInt32 >>> ((31 : Int32) &&& 31).toUInt32).toInt32))])) _
    rw [(by decide : ((((0 : Int32).toUInt32 >>> ((31 : Int32) &&& 31).toUInt32).toInt32) : Int32) = (0 : Int32))]
    refine XS.i2b X0.here hx rfl (hb hby d8_7) rfl ?_
    show  Steps p.tables e below (s₁.setTop (mkF m 8 #[rv b482_389, iv (1 : Int32)] [(.int ((0 : Int32).toInt8.toInt32))])) _
    rw [(by decide : (((0 : Int32).toInt8.toInt32) : Int32) = (0 : Int32))]
    exact kt
  obtain ⟨fs, hr, hrun, hended, hW, hsame⟩ := X0.leave (v := some (.int (0 : Int32))) (fun h => by rw [Bd.returns] at h; cases h)
  refine ⟨_, _, pre510 _ (retN X0 hx (t := .byte) Bd.returns (by simp) (hb hby d8_8) hr), hrun, hended, _, _, rfl, ?_, ⟨_, rfl⟩, hW, hsame.mono (by decide) (by decide)⟩
  show Q_coderFromArrayLen8_1 Z b482_389 c0 k482_389 h0 n0 _ s₁.heap _
  rw [e0]
  exact ⟨rfl, N0, rfl⟩
def Q_init4_1 (Z : State) (b355 : Addr) (b361 : Addr) (cz : Int32) (c0 : Int32) (k361 : ClassId) (h0 : Heap) (n0 : Nat) (v : Option Value) (h : Heap) (L : List Loc) : Prop := ∃ (b482_574 : Addr) (k482_574 : ClassId), v = none ∧ Fr n0 L ∧ Keep h0 h [b355] ∧ Old Z n0 h ∧ Exa Z h b355 "java/lang/String" ∧ Exa Z h b482_574 "[B" ∧ Arv Z h b482_574 k482_574 .byte (1 : Int32) [(.int (nar .byte ((nar .char (c0.toUInt32.toUInt16.toUInt32.toInt32)).toInt8.toInt32)))] (.int (0 : Int32)) ∧ Fld Z h b355 "java/lang/String" "coder" "B" (.int (0 : Int32)) ∧ Fld Z h b355 "java/lang/String" "value" "[B" (.ref b482_574) ∧ (h0.size ≤ b482_574)
set_option maxRecDepth 65536 in
set_option maxHeartbeats 40000000 in
theorem rm_init4_1 (l : Launch) (Z : State) (a0 : Array Value) (hw : ∀ d ∈ tables_1, d.before a0 Z = true) (ws : List Jvm.Cond) (b355 : Addr) (b361 : Addr) (cz : Int32) (c0 : Int32) (k361 : ClassId) (h0 : Heap) (n0 : Nat) (O0 : Old Z n0 h0) (G0 : Sta Z Z.heap "java/lang/String" "COMPACT_STRINGS" "Z" (.int cz)) (g_b355 : n0 ≤ b355) (Fi0 : Exa Z h0 b355 "java/lang/String") (Fi1 : Fld Z h0 b355 "java/lang/String" "coder" "B" (.int (0 : Int32))) (Fi2 : Fld Z h0 b355 "java/lang/String" "value" "[B" .null) (Fi3 : Exa Z h0 b361 "[C") (Fi4 : Arv Z h0 b361 k361 .char (1 : Int32) [(.int (nar .char (c0.toUInt32.toUInt16.toUInt32.toInt32)))] (.int (0 : Int32))) (q0 : ¬ ((0 : Int32) = cz)) (q1 : own_u8 c0) (q2 : ¬ (b361 = b355)) :
    MetFree l (⟨"java/lang/String", "<init>", "([CIILjava/lang/Void;)V"⟩ : MethodName) (head1 (Jvm.Cond.code (⟨"java/lang/String", "<init>", "([CIILjava/lang/Void;)V"⟩ : MethodName) jdk_42_method_149_code 6 none :: ws) ({ frames := 2, cells := 1, slots := 1, locals := 35 } : Room)) (fun a U => a = #[(.ref b355), (.ref b361), (.int (0 : Int32)), (.int (1 : Int32)), .null] ∧ Z.Warmed39 U.vm ∧ U.heap = h0) (fun _ _ _ _ _ => True) (fun _ U o U' => ∃ v L, o = .returned v ∧ Q_init4_1 Z b355 b361 cz c0 k361 h0 n0 v U'.heap L ∧ FrameEnd U o U' L ({ frames := 2, cells := 1, slots := 1, locals := 35 } : Room).cells ({ frames := 2, cells := 1, slots := 1, locals := 35 } : Room).slots) := by
  refine MetFree.of_bodySF (plainFor_of_name pn_13) hisR ?_
  intro p e s m args below meth c s₁ Bd hml0 hP hK
  have W := fun {d : Jvm.Cond} (i : Nat) (q : tables_1[i]? = some d) => hw d (List.mem_of_getElem? q)
  obtain ⟨rfl, hZ, hh⟩ := hP
  have hx := Bd.exec
  have hby := Bd.bytes
  have hml : c.maxLocals = 6 := hml0
  have hown : s.vm.findClass "java/lang/String" = some m.cls := findClass_of_methodNamed Bd.named
  have hnm := (name_of_methodNamed Bd.named Bd.method).1
  have X0 : Stand p l e ({ frames := 2, cells := 1, slots := 1, locals := 35 } : Room) s m #[(.ref b355), (.ref b361), (.int (0 : Int32)), (.int (1 : Int32)), .null] below meth c s₁ [] 0 0 := Stand.of_body Bd
  have e0 : s₁.heap = h0 := by rw [← hh, Bd.state]; rfl
  have N0 := Fr.nil n0
  have pre0 : ∀ t, Steps p.tables e below (s₁.setTop (mkF m 0 #[rv b355, rv b361, iv (0 : Int32), iv (1 : Int32), .val .null, .unset] [])) t → Steps p.tables e below (s₁.setTop (entryFrame m #[(.ref b355), (.ref b361), (.int (0 : Int32)), (.int (1 : Int32)), .null] 6)) t := fun t k => castTop (ef_14 m b355 b361 (0 : Int32) (1 : Int32)) k
  have K0 : Keep h0 h0 [b355] := Keep.refl h0 [b355]
  have pre567 : ∀ t, Steps p.tables e below (s₁.setTop (mkF m 1 #[rv b355, rv b361, iv (0 : Int32), iv (1 : Int32), .val .null, .unset] [(.ref b355)])) t → Steps p.tables e below (s₁.setTop (entryFrame m #[(.ref b355), (.ref b361), (.int (0 : Int32)), (.int (1 : Int32)), .null] 6)) t := fun t kt => by
    refine pre0 _ ?_
    show Steps p.tables e below (s₁.setTop (mkF m 0 #[rv b355, rv b361, iv (0 : Int32), iv (1 : Int32), .val .null, .unset] [])) _
    refine XS.aloadN X0.here hx rfl (hb hby d4_0) rfl rfl ?_
    exact kt
  obtain ⟨T568, X568, e568, st568⟩ := initO X0 hx hZ hown (W 18 rfl) (W 19 rfl) (W 20 rfl) e0 (g := (mkF m 1 #[rv b355, rv b361, iv (0 : Int32), iv (1 : Int32), .val .null, .unset] [(.ref b355)])) rfl (by rw [hml]; rfl) rfl (hb hby d4_1) (by decide) (W := 0) (by show 2 * 0 + _ ≤ _; exact Nat.le_of_eq rfl) (by decide)
  have pre569 : ∀ t, Steps p.tables e below (T568.setTop (mkF m 4 #[rv b355, rv b361, iv (0 : Int32), iv (1 : Int32), .val .null, .unset] [])) t → Steps p.tables e below (s₁.setTop (entryFrame m #[(.ref b355), (.ref b361), (.int (0 : Int32)), (.int (1 : Int32)), .null] 6)) t := fun t kt => pre567 _ (st568 _ kt)
  have pre570 : ∀ t, Steps p.tables e below (T568.setTop (mkF m 27 #[rv b355, rv b361, iv (0 : Int32), iv (1 : Int32), .val .null, .unset] [])) t → Steps p.tables e below (s₁.setTop (entryFrame m #[(.ref b355), (.ref b361), (.int (0 : Int32)), (.int (1 : Int32)), .null] 6)) t := fun t kt => by
    refine pre569 _ ?_
    show Steps p.tables e below (T568.setTop (mkF m 4 #[rv b355, rv b361, iv (0 : Int32), iv (1 : Int32), .val .null, .unset] [])) _
    refine XS.iloadN X568.here hx rfl (hb hby d4_4) rfl ?_
    refine XS.ifYes X568.here hx rfl (pc0 := 5) (pc' := 27) rfl (hb hby d4_5) rfl (XT.i0_ne_t (by decide)) (by decide) (by decide) ?_
    exact kt
  obtain ⟨T571, X571, e571, st571⟩ := getS2 X568 hx hZ hown (host := "") (Or.inl (W 21 rfl)) Via.refl e568 (G0.ext O0.2) (g := (mkF m 27 #[rv b355, rv b361, iv (0 : Int32), iv (1 : Int32), .val .null, .unset] [])) rfl (hb hby d4_27)
  have pre572 : ∀ t, Steps p.tables e below (T571.setTop (mkF m 30 #[rv b355, rv b361, iv (0 : Int32), iv (1 : Int32), .val .null, .unset] [(.int cz)])) t → Steps p.tables e below (s₁.setTop (entryFrame m #[(.ref b355), (.ref b361), (.int (0 : Int32)), (.int (1 : Int32)), .null] 6)) t := fun t kt => pre570 _ (st571 _ kt)
  have pre573 : ∀ t, Steps p.tables e below (T571.setTop (mkF m 36 #[rv b355, rv b361, iv (0 : Int32), iv (1 : Int32), .val .null, .unset] [(.int (1 : Int32)), (.int (0 : Int32)), (.ref b361)])) t → Steps p.tables e below (s₁.setTop (entryFrame m #[(.ref b355), (.ref b361), (.int (0 : Int32)), (.int (1 : Int32)), .null] 6)) t := fun t kt => by
    refine pre572 _ ?_
    show Steps p.tables e below (T571.setTop (mkF m 30 #[rv b355, rv b361, iv (0 : Int32), iv (1 : Int32), .val .null, .unset] [(.int cz)])) _
    refine XS.ifNo X571.here hx rfl (hb hby d4_30) rfl (XT.i0_eq_f (fun q => q0 q.symm)) ?_
    refine XS.aloadN X571.here hx rfl (hb hby d4_33) rfl rfl ?_
    refine XS.iloadN X571.here hx rfl (hb hby d4_34) rfl ?_
    refine XS.iloadN X571.here hx rfl (hb hby d4_35) rfl ?_
    exact kt
  obtain ⟨_, _, ⟨T574, L574, k574, n574⟩, -, X574, ⟨Lc574, hQ574, l574, y574, z574⟩, st574⟩ := Jvm.LawKit.callS X571 hx (y := (⟨"java/lang/StringUTF16", "compress", "([CII)[B"⟩ : MethodName)) hown (mvT hZ (W 22 rfl)) (mvT hZ (W 23 rfl)) (mvT hZ (W 24 rfl)) (mvT hZ (W 25 rfl)) (by decide) (backOf (W := 0) (rm_compress6_1 l Z a0 hw [] b361 c0 k361 h0 n0 O0 Fi3 Fi4 q1) hZ (W 25 rfl) (W 24 rfl) (by decide) (by decide)) (g := (mkF m 36 #[rv b355, rv b361, iv (0 : Int32), iv (1 : Int32), .val .null, .unset] [(.int (1 : Int32)), (.int (0 : Int32)), (.ref b361)])) rfl (by rw [hml]; rfl) (argsL := [(.ref b361), (.int (0 : Int32)), (.int (1 : Int32))]) (rest := []) (lenOf pd_10 rfl) rfl (by show 2 * 0 + _ ≤ _; exact Nat.le_of_eq rfl) (hb hby d4_36) (fun _ _ => ⟨rfl, e571, (by decide : 0 + 1 ≤ _), (by decide : 0 + 1 ≤ _)⟩)
  dsimp only [Pt.U, Pt.locs, Pt.cells, Pt.slots] at X574 l574 y574 z574 st574 hQ574
  replace l574 := l574.symm
  replace y574 : 1 = k574 := y574.symm
  replace z574 : 1 = n574 := z574.symm
  subst l574 y574 z574
  obtain ⟨b482_574, k482_574, rfl, M574, Kc574, O574, J574_0, J574_1, P574_0⟩ := hQ574
  obtain ⟨h574, e574⟩ : ∃ z, T574.heap = z := ⟨_, rfl⟩
  rw [e574] at Kc574 O574 J574_0 J574_1
  try rw [e574] at P574_0
  have N574 := Fr.app N0 M574
  have K574 : Keep h0 h574 [b355] := K0.trans Kc574 (own_all0 )
  have pre575 : ∀ t, Steps p.tables e below (T574.setTop (mkF m 39 #[rv b355, rv b361, iv (0 : Int32), iv (1 : Int32), .val .null, .unset] [(.ref b482_574)])) t → Steps p.tables e below (s₁.setTop (entryFrame m #[(.ref b355), (.ref b361), (.int (0 : Int32)), (.int (1 : Int32)), .null] 6)) t := fun t kt => pre573 _ (st574 _ kt)
  have F576 := Fi0.keep Kc574
  have F577 := Fi1.keep Kc574 (own_nm0 )
  have F578 := Fi2.keep Kc574 (own_nm0 )
  have F579 := Fi3.keep Kc574
  have F580 := Fi4.keep Kc574 (own_nm0 )
  have sz_b482_574 : h0.size ≤ b482_574 := Nat.le_trans K0.1 P574_0
  have ne_b355_b482_574 : b355 ≠ b482_574 := Nat.ne_of_lt (Nat.lt_of_lt_of_le Fi0.lt P574_0)
  have ne_b361_b482_574 : b361 ≠ b482_574 := Nat.ne_of_lt (Nat.lt_of_lt_of_le Fi3.lt P574_0)
  have g_b482_574 : n0 ≤ b482_574 := Nat.le_trans (Nat.le_trans (Nat.le_of_eq O0.1.symm) O0.2.1) sz_b482_574
  have pre581 : ∀ t, Steps p.tables e below (T574.setTop (mkF m 45 #[rv b355, rv b361, iv (0 : Int32), iv (1 : Int32), .val .null, rv b482_574] [(.int (1 : Int32)), (.ref b482_574), (.ref b355)])) t → Steps p.tables e below (s₁.setTop (entryFrame m #[(.ref b355), (.ref b361), (.int (0 : Int32)), (.int (1 : Int32)), .null] 6)) t := fun t kt => by
    refine pre575 _ ?_
    show Steps p.tables e below (T574.setTop (mkF m 39 #[rv b355, rv b361, iv (0 : Int32), iv (1 : Int32), .val .null, .unset] [(.ref b482_574)])) _
    refine XS.astore X574.here hx rfl (hb hby d4_39) rfl rfl (l' := #[rv b355, rv b361, iv (0 : Int32), iv (1 : Int32), .val .null, rv b482_574]) rfl ?_
    refine XS.aloadN X574.here hx rfl (hb hby d4_41) rfl rfl ?_
    refine XS.aload X574.here hx rfl (hb hby d4_42) rfl rfl ?_
    refine XS.iloadN X574.here hx rfl (hb hby d4_44) rfl ?_
    exact kt
  obtain ⟨_, _, ⟨T582, L582, k582, n582⟩, -, X582, ⟨Lc582, hQ582, l582, y582, z582⟩, st582⟩ := Jvm.LawKit.callS X574 hx (y := (⟨"java/lang/StringUTF16", "coderFromArrayLen", "([BI)B"⟩ : MethodName)) hown (mvT hZ (W 30 rfl)) (mvT hZ (W 31 rfl)) (mvT hZ (W 24 rfl)) (mvT hZ (W 32 rfl)) (by decide) (backOf (W := 1) (rm_coderFromArrayLen8_1 l Z a0 hw [] b482_574 c0 k482_574 h574 n0 O574 J574_1) hZ (W 32 rfl) (W 24 rfl) (by decide) (by decide)) (g := (mkF m 45 #[rv b355, rv b361, iv (0 : Int32), iv (1 : Int32), .val .null, rv b482_574] [(.int (1 : Int32)), (.ref b482_574), (.ref b355)])) rfl (by rw [hml]; rfl) (argsL := [(.ref b482_574), (.int (1 : Int32))]) (rest := [(.ref b355)]) (lenOf pd_12 rfl) rfl (by show 2 * 0 + _ ≤ _; exact Nat.le_of_eq rfl) (hb hby d4_45) (fun _ _ => ⟨rfl, e574, (by decide : 1 + 0 ≤ _), (by decide : 1 + 0 ≤ _)⟩)
  dsimp only [Pt.U, Pt.locs, Pt.cells, Pt.slots] at X582 l582 y582 z582 st582 hQ582
  replace l582 := l582.symm
  replace y582 : 1 = k582 := y582.symm
  replace z582 : 1 = n582 := z582.symm
  subst l582 y582 z582
  obtain ⟨rfl, M582, e582⟩ := hQ582
  have N582 := Fr.app N574 M582
  have pre583 : ∀ t, Steps p.tables e below (T582.setTop (mkF m 48 #[rv b355, rv b361, iv (0 : Int32), iv (1 : Int32), .val .null, rv b482_574] [(.int (0 : Int32)), (.ref b355)])) t → Steps p.tables e below (s₁.setTop (entryFrame m #[(.ref b355), (.ref b361), (.int (0 : Int32)), (.int (1 : Int32)), .null] 6)) t := fun t kt => pre581 _ (st582 _ kt)
  obtain ⟨T584, h584, X584, e584, W584, st584⟩ := putFN X582 hx hZ hown (W 33 rfl) Via.refl e582 F577 F576 (Or.inr ⟨(W 34 rfl), rfl, hnm⟩) (W 8 rfl) (ty := .byte) (v' := (.int (0 : Int32))) (by decide) rfl rfl (g := (mkF m 48 #[rv b355, rv b361, iv (0 : Int32), iv (1 : Int32), .val .null, rv b482_574] [(.int (0 : Int32)), (.ref b355)])) rfl rfl (hb hby d4_48)
  have pre585 : ∀ t, Steps p.tables e below (T584.setTop (mkF m 51 #[rv b355, rv b361, iv (0 : Int32), iv (1 : Int32), .val .null, rv b482_574] [])) t → Steps p.tables e below (s₁.setTop (entryFrame m #[(.ref b355), (.ref b361), (.int (0 : Int32)), (.int (1 : Int32)), .null] 6)) t := fun t kt => pre583 _ (st584 _ kt)
  have N584 := Fr.snoc X584 N582 g_b355
  have O584 := O574.wr W584 g_b355
  have K584 : Keep h0 h584 [b355] := K574.wr W584 (Or.inl (List.mem_of_getElem? (i := 0) rfl))
  have F586 := F576.wr W584
  have F587 := F578.other W584 (Or.inr (slot_ne (Or.inr (W 36 rfl)) (Or.inr (W 34 rfl)) (by decide) (t := (.array .byte)) (t' := .byte) (by decide) (by decide)))
  have F588 := F579.wr W584
  have F589 := F580.other W584 q2
  have F590 := J574_0.wr W584
  have F591 := J574_1.other W584 (fun q => ne_b355_b482_574 q.symm)
  have F592 : Fld Z h584 b355 "java/lang/String" "coder" "B" (.int (0 : Int32)) := F577.same W584
  have pre593 : ∀ t, Steps p.tables e below (T584.setTop (mkF m 54 #[rv b355, rv b361, iv (0 : Int32), iv (1 : Int32), .val .null, rv b482_574] [(.ref b482_574), (.ref b355)])) t → Steps p.tables e below (s₁.setTop (entryFrame m #[(.ref b355), (.ref b361), (.int (0 : Int32)), (.int (1 : Int32)), .null] 6)) t := fun t kt => by
    refine pre585 _ ?_
    show Steps p.tables e below (T584.setTop (mkF m 51 #[rv b355, rv b361, iv (0 : Int32), iv (1 : Int32), .val .null, rv b482_574] [])) _
    refine XS.aloadN X584.here hx rfl (hb hby d4_51) rfl rfl ?_
    refine XS.aload X584.here hx rfl (hb hby d4_52) rfl rfl ?_
    exact kt
  obtain ⟨T594, h594, X594, e594, W594, st594⟩ := putF X584 hx hZ hown (host := "") (Or.inl (W 35 rfl)) Via.refl e584 F587 F586 (Or.inr ⟨(W 36 rfl), rfl, hnm⟩) (W 8 rfl) (ty := (.array .byte)) (by decide) rfl rfl (g := (mkF m 54 #[rv b355, rv b361, iv (0 : Int32), iv (1 : Int32), .val .null, rv b482_574] [(.ref b482_574), (.ref b355)])) rfl rfl (hb hby d4_54)
  have pre595 : ∀ t, Steps p.tables e below (T594.setTop (mkF m 57 #[rv b355, rv b361, iv (0 : Int32), iv (1 : Int32), .val .null, rv b482_574] [])) t → Steps p.tables e below (s₁.setTop (entryFrame m #[(.ref b355), (.ref b361), (.int (0 : Int32)), (.int (1 : Int32)), .null] 6)) t := fun t kt => pre593 _ (st594 _ kt)
  have N594 := Fr.snoc X594 N584 g_b355
  have O594 := O584.wr W594 g_b355
  have K594 : Keep h0 h594 [b355] := K584.wr W594 (Or.inl (List.mem_of_getElem? (i := 0) rfl))
  have F596 := F586.wr W594
  have F597 := F588.wr W594
  have F598 := F589.other W594 q2
  have F599 := F590.wr W594
  have F600 := F591.other W594 (fun q => ne_b355_b482_574 q.symm)
  have F601 := F592.other W594 (Or.inr (slot_ne (Or.inr (W 34 rfl)) (Or.inr (W 36 rfl)) (by decide) (t := .byte) (t' := (.array .byte)) (by decide) (by decide)))
  have F602 : Fld Z h594 b355 "java/lang/String" "value" "[B" (.ref b482_574) := F587.same W594
  obtain ⟨fs, hr, hrun, hended, hW, hsame⟩ := X594.leave (v := none) (fun _ => rfl)
  refine ⟨_, _, pre595 _ (X594.returnOut hx Bd.returns (hb hby d4_57) hr), hrun, hended, _, _, rfl, ?_, ⟨_, rfl⟩, hW, hsame.mono (by decide) (by decide)⟩
  show Q_init4_1 Z b355 b361 cz c0 k361 h0 n0 _ T594.heap _
  rw [e594]
  exact ⟨b482_574, k482_574, rfl, N594, K594, O594, F596, F599, F600, F601, F602, sz_b482_574⟩
def Q_init3_1 (Z : State) (b355 : Addr) (b361 : Addr) (cz : Int32) (c0 : Int32) (k361 : ClassId) (h0 : Heap) (n0 : Nat) (v : Option Value) (h : Heap) (L : List Loc) : Prop := ∃ (b482_616 : Addr) (k482_616 : ClassId), v = none ∧ Fr n0 L ∧ Keep h0 h [b355] ∧ Old Z n0 h ∧ Exa Z h b355 "java/lang/String" ∧ Exa Z h b482_616 "[B" ∧ Arv Z h b482_616 k482_616 .byte (1 : Int32) [(.int (nar .byte ((nar .char (c0.toUInt32.toUInt16.toUInt32.toInt32)).toInt8.toInt32)))] (.int (0 : Int32)) ∧ Fld Z h b355 "java/lang/String" "coder" "B" (.int (0 : Int32)) ∧ Fld Z h b355 "java/lang/String" "value" "[B" (.ref b482_616) ∧ (h0.size ≤ b482_616)
set_option maxRecDepth 65536 in
set_option maxHeartbeats 40000000 in
theorem rm_init3_1 (l : Launch) (Z : State) (a0 : Array Value) (hw : ∀ d ∈ tables_1, d.before a0 Z = true) (ws : List Jvm.Cond) (b355 : Addr) (b361 : Addr) (cz : Int32) (c0 : Int32) (k361 : ClassId) (h0 : Heap) (n0 : Nat) (O0 : Old Z n0 h0) (G0 : Sta Z Z.heap "java/lang/String" "COMPACT_STRINGS" "Z" (.int cz)) (g_b355 : n0 ≤ b355) (Fi0 : Exa Z h0 b355 "java/lang/String") (Fi1 : Fld Z h0 b355 "java/lang/String" "coder" "B" (.int (0 : Int32))) (Fi2 : Fld Z h0 b355 "java/lang/String" "value" "[B" .null) (Fi3 : Exa Z h0 b361 "[C") (Fi4 : Arv Z h0 b361 k361 .char (1 : Int32) [(.int (nar .char (c0.toUInt32.toUInt16.toUInt32.toInt32)))] (.int (0 : Int32))) (q0 : ¬ ((0 : Int32) = cz)) (q1 : own_u8 c0) (q2 : ¬ (b361 = b355)) :
    MetFree l (⟨"java/lang/String", "<init>", "([C)V"⟩ : MethodName) (head1 (Jvm.Cond.code (⟨"java/lang/String", "<init>", "([C)V"⟩ : MethodName) jdk_42_method_3_code 2 none :: ws) ({ frames := 3, cells := 1, slots := 1, locals := 52 } : Room)) (fun a U => a = #[(.ref b355), (.ref b361)] ∧ Z.Warmed39 U.vm ∧ U.heap = h0) (fun _ _ _ _ _ => True) (fun _ U o U' => ∃ v L, o = .returned v ∧ Q_init3_1 Z b355 b361 cz c0 k361 h0 n0 v U'.heap L ∧ FrameEnd U o U' L ({ frames := 3, cells := 1, slots := 1, locals := 52 } : Room).cells ({ frames := 3, cells := 1, slots := 1, locals := 52 } : Room).slots) := by
  refine MetFree.of_bodySF (plainFor_of_name pn_13) hisR ?_
  intro p e s m args below meth c s₁ Bd hml0 hP hK
  have W := fun {d : Jvm.Cond} (i : Nat) (q : tables_1[i]? = some d) => hw d (List.mem_of_getElem? q)
  obtain ⟨rfl, hZ, hh⟩ := hP
  have hx := Bd.exec
  have hby := Bd.bytes
  have hml : c.maxLocals = 2 := hml0
  have hown : s.vm.findClass "java/lang/String" = some m.cls := findClass_of_methodNamed Bd.named
  have hnm := (name_of_methodNamed Bd.named Bd.method).1
  have X0 : Stand p l e ({ frames := 3, cells := 1, slots := 1, locals := 52 } : Room) s m #[(.ref b355), (.ref b361)] below meth c s₁ [] 0 0 := Stand.of_body Bd
  have e0 : s₁.heap = h0 := by rw [← hh, Bd.state]; rfl
  have N0 := Fr.nil n0
  have pre0 : ∀ t, Steps p.tables e below (s₁.setTop (mkF m 0 #[rv b355, rv b361] [])) t → Steps p.tables e below (s₁.setTop (entryFrame m #[(.ref b355), (.ref b361)] 2)) t := fun t k => castTop (ef_16 m b355 b361) k
  have K0 : Keep h0 h0 [b355] := Keep.refl h0 [b355]
  have pre614 : ∀ t, Steps p.tables e below (s₁.setTop (mkF m 4 #[rv b355, rv b361] [(.ref b361), (.int (0 : Int32)), (.ref b361), (.ref b355)])) t → Steps p.tables e below (s₁.setTop (entryFrame m #[(.ref b355), (.ref b361)] 2)) t := fun t kt => by
    refine pre0 _ ?_
    show Steps p.tables e below (s₁.setTop (mkF m 0 #[rv b355, rv b361] [])) _
    refine XS.aloadN X0.here hx rfl (hb hby d3_0) rfl rfl ?_
    refine XS.aloadN X0.here hx rfl (hb hby d3_1) rfl rfl ?_
    refine XS.iconst X0.here hx rfl (hb hby d3_2) ?_
    refine XS.aloadN X0.here hx rfl (hb hby d3_3) rfl rfl ?_
    exact kt
  obtain ⟨c613, Ar613, -, S613, M613, -, -⟩ := id Fi4
  have pre615 : ∀ t, Steps p.tables e below (s₁.setTop (mkF m 6 #[rv b355, rv b361] [.null, (.int (1 : Int32)), (.int (0 : Int32)), (.ref b361), (.ref b355)])) t → Steps p.tables e below (s₁.setTop (entryFrame m #[(.ref b355), (.ref b361)] 2)) t := fun t kt => by
    refine pre614 _ ?_
    show Steps p.tables e below (s₁.setTop (mkF m 4 #[rv b355, rv b361] [(.ref b361), (.int (0 : Int32)), (.ref b361), (.ref b355)])) _
    refine X0.arraylength hx (by rw [e0]; exact Ar613.1) (State.isArrayOf_alike hZ.alike Ar613.2.1) (g := (mkF m 4 #[rv b355, rv b361] [(.ref b361), (.int (0 : Int32)), (.ref b361), (.ref b355)])) rfl rfl (hb hby d3_4) _ ?_
    rw [len_of S613 M613]
    refine XS.aconstNull X0.here hx rfl (hb hby d3_5) ?_
    exact kt
  obtain ⟨_, _, ⟨T616, L616, k616, n616⟩, -, X616, ⟨Lc616, hQ616, l616, y616, z616⟩, st616⟩ := X0.specialBack hx (y := (⟨"java/lang/String", "<init>", "([CIILjava/lang/Void;)V"⟩ : MethodName)) rfl hown (mvT hZ (W 14 rfl)) (mvT hZ (W 15 rfl)) (mvT hZ (W 17 rfl)) (by decide) (backOf (W := 0) (rm_init4_1 l Z a0 hw [] b355 b361 cz c0 k361 h0 n0 O0 G0 g_b355 Fi0 Fi1 Fi2 Fi3 Fi4 q0 q1 q2) hZ (W 17 rfl) (W 9 rfl) (by decide) (by decide)) (g := (mkF m 6 #[rv b355, rv b361] [.null, (.int (1 : Int32)), (.int (0 : Int32)), (.ref b361), (.ref b355)])) rfl (by rw [hml]; rfl) (Steps.refl _) (a := b355) (argsL := [(.ref b361), (.int (0 : Int32)), (.int (1 : Int32)), .null]) (rest := []) (lenOf pd_15 rfl) rfl (by show 2 * 0 + _ ≤ _; exact Nat.le_of_eq rfl) (hb hby d3_6) (fun _ _ => ⟨rfl, e0, (by decide : 0 + 1 ≤ _), (by decide : 0 + 1 ≤ _)⟩)
  dsimp only [Pt.U, Pt.locs, Pt.cells, Pt.slots] at X616 l616 y616 z616 st616 hQ616
  replace l616 := l616.symm
  replace y616 : 1 = k616 := y616.symm
  replace z616 : 1 = n616 := z616.symm
  subst l616 y616 z616
  obtain ⟨b482_616, k482_616, rfl, M616, Kc616, O616, J616_0, J616_1, J616_2, J616_3, J616_4, P616_0⟩ := hQ616
  obtain ⟨h616, e616⟩ : ∃ z, T616.heap = z := ⟨_, rfl⟩
  rw [e616] at Kc616 O616 J616_0 J616_1 J616_2 J616_3 J616_4
  try rw [e616] at P616_0
  have N616 := Fr.app N0 M616
  have K616 : Keep h0 h616 [b355] := K0.trans Kc616 (own_all1 (Or.inl (List.mem_of_getElem? (i := 0) rfl)))
  have pre617 : ∀ t, Steps p.tables e below (T616.setTop (mkF m 9 #[rv b355, rv b361] [])) t → Steps p.tables e below (s₁.setTop (entryFrame m #[(.ref b355), (.ref b361)] 2)) t := fun t kt => pre615 _ (st616.trans kt)
  have F618 := Fi3.keep Kc616
  have F619 := Fi4.keep Kc616 (own_nm1 q2)
  have sz_b482_616 : h0.size ≤ b482_616 := Nat.le_trans K0.1 P616_0
  have ne_b355_b482_616 : b355 ≠ b482_616 := Nat.ne_of_lt (Nat.lt_of_lt_of_le Fi0.lt P616_0)
  have ne_b361_b482_616 : b361 ≠ b482_616 := Nat.ne_of_lt (Nat.lt_of_lt_of_le Fi3.lt P616_0)
  have g_b482_616 : n0 ≤ b482_616 := Nat.le_trans (Nat.le_trans (Nat.le_of_eq O0.1.symm) O0.2.1) sz_b482_616
  obtain ⟨fs, hr, hrun, hended, hW, hsame⟩ := X616.leave (v := none) (fun _ => rfl)
  refine ⟨_, _, pre617 _ (X616.returnOut hx Bd.returns (hb hby d3_9) hr), hrun, hended, _, _, rfl, ?_, ⟨_, rfl⟩, hW, hsame.mono (by decide) (by decide)⟩
  show Q_init3_1 Z b355 b361 cz c0 k361 h0 n0 _ T616.heap _
  rw [e616]
  exact ⟨b482_616, k482_616, rfl, N616, K616, O616, J616_0, J616_1, J616_2, J616_3, J616_4, sz_b482_616⟩
def Q_str1 (Z : State) (c0 : Int32) (c1 : Int32) (cz : Int32) (h0 : Heap) (n0 : Nat) (v : Option Value) (h : Heap) (L : List Loc) : Prop := ∃ (r : Addr), v = some (.ref r) ∧ Fr n0 L ∧ Keep h0 h [] ∧ Old Z n0 h ∧ own_str Z h r (0 : Int32) (own_b c0) (own_b c1) ∧ (h0.size ≤ r)
set_option maxRecDepth 65536 in
set_option maxHeartbeats 40000000 in
theorem rm_str1 (l : Launch) (Z : State) (a0 : Array Value) (hw : ∀ d ∈ tables_1, d.before a0 Z = true) (ws : List Jvm.Cond) (c0 : Int32) (c1 : Int32) (cz : Int32) (h0 : Heap) (n0 : Nat) (O0 : Old Z n0 h0) (G0 : Sta Z Z.heap "java/lang/String" "COMPACT_STRINGS" "Z" (.int cz)) (qz : ¬ (cz = (0 : Int32))) (u0 : own_u8 c0) :
    MetFree l (⟨"com/example/homethread/homethread/cli/ScenarioReportExitStatusPinLaw", "str", "(IIZ)Ljava/lang/String;"⟩ : MethodName) (head1 (Jvm.Cond.code (⟨"com/example/homethread/homethread/cli/ScenarioReportExitStatusPinLaw", "str", "(IIZ)Ljava/lang/String;"⟩ : MethodName) method_2_code 3 (some (.object "java/lang/String")) :: ws) ({ frames := 4, cells := 3, slots := 6, locals := 66 } : Room)) (fun a U => a = #[(.int c0), (.int c1), (.int (0 : Int32))] ∧ Z.Warmed39 U.vm ∧ U.heap = h0) (fun _ _ _ _ _ => True) (fun _ U o U' => ∃ v L, o = .returned v ∧ Q_str1 Z c0 c1 cz h0 n0 v U'.heap L ∧ FrameEnd U o U' L ({ frames := 4, cells := 3, slots := 6, locals := 66 } : Room).cells ({ frames := 4, cells := 3, slots := 6, locals := 66 } : Room).slots) := by
  refine MetFree.of_bodySF (plainFor_of_name pn_0) hisR ?_
  intro p e s m args below meth c s₁ Bd hml0 hP hK
  have W := fun {d : Jvm.Cond} (i : Nat) (q : tables_1[i]? = some d) => hw d (List.mem_of_getElem? q)
  obtain ⟨rfl, hZ, hh⟩ := hP
  have hx := Bd.exec
  have hby := Bd.bytes
  have hml : c.maxLocals = 3 := hml0
  have hown : s.vm.findClass "com/example/homethread/homethread/cli/ScenarioReportExitStatusPinLaw" = some m.cls := findClass_of_methodNamed Bd.named
  have hnm := (name_of_methodNamed Bd.named Bd.method).1
  have X0 : Stand p l e ({ frames := 4, cells := 3, slots := 6, locals := 66 } : Room) s m #[(.int c0), (.int c1), (.int (0 : Int32))] below meth c s₁ [] 0 0 := Stand.of_body Bd
  have e0 : s₁.heap = h0 := by rw [← hh, Bd.state]; rfl
  have N0 := Fr.nil n0
  have pre0 : ∀ t, Steps p.tables e below (s₁.setTop (mkF m 0 #[iv c0, iv c1, iv (0 : Int32)] [])) t → Steps p.tables e below (s₁.setTop (entryFrame m #[(.int c0), (.int c1), (.int (0 : Int32))] 3)) t := fun t k => castTop (ef_5 m c0 c1 (0 : Int32)) k
  have K0 : Keep h0 h0 [] := Keep.refl h0 []
  have pre354 : ∀ t, Steps p.tables e below (s₁.setTop (mkF m 27 #[iv c0, iv c1, iv (0 : Int32)] [])) t → Steps p.tables e below (s₁.setTop (entryFrame m #[(.int c0), (.int c1), (.int (0 : Int32))] 3)) t := fun t kt => by
    refine pre0 _ ?_
    show Steps p.tables e below (s₁.setTop (mkF m 0 #[iv c0, iv c1, iv (0 : Int32)] [])) _
    refine XS.iloadN X0.here hx rfl (hb hby d2_0) rfl ?_
    refine XS.ifYes X0.here hx rfl (pc0 := 1) (pc' := 27) rfl (hb hby d2_1) rfl (XT.i0_eq_t (by decide)) (by decide) (by decide) ?_
    exact kt
  obtain ⟨T355, h355, X355, e355, E355, A355, D355, -, st355⟩ := newO X0 hx hZ hown (W 7 rfl) (W 8 rfl) (W 9 rfl) e0 (g := (mkF m 27 #[iv c0, iv c1, iv (0 : Int32)] [])) rfl (hb hby d2_27) (by decide) (by decide)
  obtain ⟨b355, g355⟩ : ∃ z, z = h0.size := ⟨_, rfl⟩
  rw [← g355] at A355 D355 st355
  have pre356 : ∀ t, Steps p.tables e below (T355.setTop (mkF m 30 #[iv c0, iv c1, iv (0 : Int32)] [(.ref b355)])) t → Steps p.tables e below (s₁.setTop (entryFrame m #[(.int c0), (.int c1), (.int (0 : Int32))] 3)) t := fun t kt => pre354 _ (st355 _ kt)
  have O355 := O0.ext E355
  have K355 : Keep h0 h355 [] := K0.ext E355
  have g_b355 : n0 ≤ b355 := Nat.le_trans (Nat.le_trans (Nat.le_of_eq O0.1.symm) O0.2.1) (Nat.le_of_eq g355.symm)
  have sz_b355 : h0.size ≤ b355 := Nat.le_trans K0.1 (Nat.le_of_eq g355.symm)
  have F357 : Exa Z h355 b355 "java/lang/String" := A355
  have F358 : Fld Z h355 b355 "java/lang/String" "coder" "B" (.int (0 : Int32)) := D355 (Or.inr (W 34 rfl)) (ty := .byte) (by decide)
  have F359 : Fld Z h355 b355 "java/lang/String" "value" "[B" .null := D355 (Or.inr (W 36 rfl)) (ty := (.array .byte)) (by decide)
  have pre360 : ∀ t, Steps p.tables e below (T355.setTop (mkF m 32 #[iv c0, iv c1, iv (0 : Int32)] [(.int (1 : Int32)), (.ref b355), (.ref b355)])) t → Steps p.tables e below (s₁.setTop (entryFrame m #[(.int c0), (.int c1), (.int (0 : Int32))] 3)) t := fun t kt => by
    refine pre356 _ ?_
    show Steps p.tables e below (T355.setTop (mkF m 30 #[iv c0, iv c1, iv (0 : Int32)] [(.ref b355)])) _
    refine XS.dup X355.here hx rfl (hb hby d2_30) rfl rfl ?_
    refine XS.iconst X355.here hx rfl (hb hby d2_31) ?_
    exact kt
  obtain ⟨T361, h361, k361, X361, e361, E361, A361, B361, st361⟩ := newPE X355 hx hZ (W 10 rfl) e355 (g := (mkF m 32 #[iv c0, iv c1, iv (0 : Int32)] [(.int (1 : Int32)), (.ref b355), (.ref b355)])) rfl (hb hby d2_32) rfl (by decide) (cap := 1) (by decide) (by decide) (by decide) (by decide) (ad := "[C") (by decide)
  obtain ⟨b361, g361⟩ : ∃ z, z = h355.size := ⟨_, rfl⟩
  rw [← g361] at A361 B361 st361
  have pre362 : ∀ t, Steps p.tables e below (T361.setTop (mkF m 34 #[iv c0, iv c1, iv (0 : Int32)] [(.ref b361), (.ref b355), (.ref b355)])) t → Steps p.tables e below (s₁.setTop (entryFrame m #[(.int c0), (.int c1), (.int (0 : Int32))] 3)) t := fun t kt => pre360 _ (st361 _ kt)
  have O361 := O355.ext E361
  have K361 : Keep h0 h361 [] := K355.ext E361
  have F363 := F357.ext E361
  have F364 := F358.ext E361
  have F365 := F359.ext E361
  have g_b361 : n0 ≤ b361 := Nat.le_trans (Nat.le_trans (Nat.le_of_eq O355.1.symm) O355.2.1) (Nat.le_of_eq g361.symm)
  have sz_b361 : h0.size ≤ b361 := Nat.le_trans K355.1 (Nat.le_of_eq g361.symm)
  have ne_b355_b361 : b355 ≠ b361 := Nat.ne_of_lt (Nat.lt_of_lt_of_le F357.lt (Nat.le_of_eq g361.symm))
  have F366 : Exa Z h361 b361 "[C" := B361
  have F367 : Arv Z h361 b361 k361 .char (1 : Int32) [(.int (0 : Int32))] (.int (0 : Int32)) := (Arv.new A361 (by decide)).pad (pad_rep [] (.int (0 : Int32)) 1)
  have pre368 : ∀ t, Steps p.tables e below (T361.setTop (mkF m 38 #[iv c0, iv c1, iv (0 : Int32)] [(.int (c0.toUInt32.toUInt16.toUInt32.toInt32)), (.int (0 : Int32)), (.ref b361), (.ref b361), (.ref b355), (.ref b355)])) t → Steps p.tables e below (s₁.setTop (entryFrame m #[(.int c0), (.int c1), (.int (0 : Int32))] 3)) t := fun t kt => by
    refine pre362 _ ?_
    show Steps p.tables e below (T361.setTop (mkF m 34 #[iv c0, iv c1, iv (0 : Int32)] [(.ref b361), (.ref b355), (.ref b355)])) _
    refine XS.dup X361.here hx rfl (hb hby d2_34) rfl rfl ?_
    refine XS.iconst X361.here hx rfl (hb hby d2_35) ?_
    refine XS.iloadN X361.here hx rfl (hb hby d2_36) rfl ?_
    refine XS.i2c X361.here hx rfl (hb hby d2_37) rfl ?_
    exact kt
  obtain ⟨c369, Ar369, q369, S369, M369, H369, G369⟩ := id F367
  have i369 : ¬ ((0 : Int32) < 0 ∨ c369.slots.size ≤ ((0 : Int32)).toNatClampNeg) := inb_of S369 ⟨by decide, by decide⟩
  obtain ⟨T370, h370, X370, e370, W370, st370⟩ := stC X361 hx hZ e361 Ar369 (j := (0 : Int32)) i369 (g := (mkF m 38 #[iv c0, iv c1, iv (0 : Int32)] [(.int (c0.toUInt32.toUInt16.toUInt32.toInt32)), (.int (0 : Int32)), (.ref b361), (.ref b361), (.ref b355), (.ref b355)])) rfl rfl (hb hby d2_38)
  have pre371 : ∀ t, Steps p.tables e below (T370.setTop (mkF m 39 #[iv c0, iv c1, iv (0 : Int32)] [(.ref b361), (.ref b355), (.ref b355)])) t → Steps p.tables e below (s₁.setTop (entryFrame m #[(.int c0), (.int c1), (.int (0 : Int32))] 3)) t := fun t kt => pre368 _ (st370 _ kt)
  have N370 := Fr.snoc X370 N0 g_b361
  have O370 := O361.wr W370 g_b361
  have K370 : Keep h0 h370 [] := K361.wr W370 (Or.inr sz_b361)
  have F372 := F363.wr W370
  have F373 := F364.other W370 (Or.inl ne_b355_b361)
  have F374 := F365.other W370 (Or.inl ne_b355_b361)
  have F375 := F366.wr W370
  have F376 : Arv Z h370 b361 k361 .char (1 : Int32) [(.int (nar .char (c0.toUInt32.toUInt16.toUInt32.toInt32)))] (.int (0 : Int32)) := Arv.set Ar369 q369 S369 M369 H369 G369 (fits_nar_char _) W370 0 rfl (Nat.le_of_ble_eq_true rfl)
  obtain ⟨_, _, ⟨T377, L377, k377, n377⟩, -, X377, ⟨Lc377, hQ377, l377, y377, z377⟩, st377⟩ := X370.specialBack hx (y := (⟨"java/lang/String", "<init>", "([C)V"⟩ : MethodName)) rfl hown (mvT hZ (W 11 rfl)) (mvT hZ (W 12 rfl)) (mvT hZ (W 13 rfl)) (by decide) (backOf (W := 1) (rm_init3_1 l Z a0 hw [] b355 b361 cz c0 k361 h370 n0 O370 G0 g_b355 F372 F373 F374 F375 F376 (fun q => qz q.symm) u0 (fun q => ne_b355_b361 q.symm)) hZ (W 13 rfl) (W 9 rfl) (by decide) (by decide)) (g := (mkF m 39 #[iv c0, iv c1, iv (0 : Int32)] [(.ref b361), (.ref b355), (.ref b355)])) rfl (by rw [hml]; rfl) (Steps.refl _) (a := b355) (argsL := [(.ref b361)]) (rest := [(.ref b355)]) (lenOf pd_17 rfl) rfl (by show 2 * 0 + _ ≤ _; exact Nat.le_of_eq rfl) (hb hby d2_39) (fun _ _ => ⟨rfl, e370, (by decide : 2 + 1 ≤ _), (by decide : 5 + 1 ≤ _)⟩)
  dsimp only [Pt.U, Pt.locs, Pt.cells, Pt.slots] at X377 l377 y377 z377 st377 hQ377
  replace l377 := l377.symm
  replace y377 : 3 = k377 := y377.symm
  replace z377 : 6 = n377 := z377.symm
  subst l377 y377 z377
  obtain ⟨b482_377, k482_377, rfl, M377, Kc377, O377, J377_0, J377_1, J377_2, J377_3, J377_4, P377_0⟩ := hQ377
  obtain ⟨h377, e377⟩ : ∃ z, T377.heap = z := ⟨_, rfl⟩
  rw [e377] at Kc377 O377 J377_0 J377_1 J377_2 J377_3 J377_4
  try rw [e377] at P377_0
  have N377 := Fr.app N370 M377
  have K377 : Keep h0 h377 [] := K370.trans Kc377 (own_all1 (Or.inr sz_b355))
  have pre620 : ∀ t, Steps p.tables e below (T377.setTop (mkF m 42 #[iv c0, iv c1, iv (0 : Int32)] [(.ref b355)])) t → Steps p.tables e below (s₁.setTop (entryFrame m #[(.int c0), (.int c1), (.int (0 : Int32))] 3)) t := fun t kt => pre371 _ (st377.trans kt)
  have F621 := F375.keep Kc377
  have F622 := F376.keep Kc377 (own_nm1 (fun q => ne_b355_b361 q.symm))
  have sz_b482_377 : h0.size ≤ b482_377 := Nat.le_trans K370.1 P377_0
  have ne_b355_b482_377 : b355 ≠ b482_377 := Nat.ne_of_lt (Nat.lt_of_lt_of_le F372.lt P377_0)
  have ne_b361_b482_377 : b361 ≠ b482_377 := Nat.ne_of_lt (Nat.lt_of_lt_of_le F375.lt P377_0)
  have g_b482_377 : n0 ≤ b482_377 := Nat.le_trans (Nat.le_trans (Nat.le_of_eq O0.1.symm) O0.2.1) sz_b482_377
  have F623 : own_str Z h377 b355 (0 : Int32) (own_b c0) (own_b c1) := ⟨b482_377, k482_377, _, J377_0, J377_3, J377_4, J377_2, rfl⟩
  obtain ⟨fs, hr, hrun, hended, hW, hsame⟩ := X377.leave (v := some (.ref b355)) (fun h => by rw [Bd.returns] at h; cases h)
  refine ⟨_, _, pre620 _ (X377.areturnOut hx rfl Bd.returns rfl (hb hby d2_42) hr), hrun, hended, _, _, rfl, ?_, ⟨_, rfl⟩, hW, hsame.mono (by decide) (by decide)⟩
  show Q_str1 Z c0 c1 cz h0 n0 _ T377.heap _
  rw [e377]
  exact ⟨b355, rfl, N377, K377, O377, F623, sz_b355⟩
theorem ef_18 (m : MethodId) (x0 : Int32) (x1 : Int32) : entryFrame m #[(.int x0), (.int x1)] 2 = mkF m 0 #[.val (.int x0), .val (.int x1)] [] := by first | (simp [entryFrame, mkF, argsToLocals, Value.category]; done) | rfl
theorem d1_0 : decode method_5_code 0 = .ok (.iload_n 0, 1) := by decide +kernel
theorem d1_1 : decode method_5_code 1 = .ok (.sipush 255, 3) := by decide +kernel
theorem d1_4 : decode method_5_code 4 = .ok (.iand, 1) := by decide +kernel
theorem d1_5 : decode method_5_code 5 = .ok (.iload_n 0, 1) := by decide +kernel
theorem d1_6 : decode method_5_code 6 = .ok (.bipush 8, 2) := by decide +kernel
theorem d1_8 : decode method_5_code 8 = .ok (.iushr, 1) := by decide +kernel
theorem d1_9 : decode method_5_code 9 = .ok (.sipush 255, 3) := by decide +kernel
theorem d1_12 : decode method_5_code 12 = .ok (.iand, 1) := by decide +kernel
theorem d1_13 : decode method_5_code 13 = .ok (.iload_n 1, 1) := by decide +kernel
theorem d1_14 : decode method_5_code 14 = .ok (.iconst 1, 1) := by decide +kernel
theorem d1_15 : decode method_5_code 15 = .ok (.iand, 1) := by decide +kernel
theorem d1_16 : decode method_5_code 16 = .ok (.ifCond .eq 7, 3) := by decide +kernel
theorem d1_23 : decode method_5_code 23 = .ok (.iconst 0, 1) := by decide +kernel
theorem d1_24 : decode method_5_code 24 = .ok (.invokestatic 12, 3) := by decide +kernel
theorem pd_19 : parseMethodDescriptor "(IIZ)Ljava/lang/String;" = some ⟨[.int, .int, .boolean], some (.object "java/lang/String")⟩ := by decide +kernel
theorem d1_27 : decode method_5_code 27 = .ok (.areturn, 1) := by decide +kernel
theorem d1_19 : decode method_5_code 19 = .ok (.iconst 1, 1) := by decide +kernel
theorem d1_20 : decode method_5_code 20 = .ok (.goto 4, 3) := by decide +kernel
def Q_exp (Z : State) (xp : Int32) (xl : Int32) (cz : Int32) (h0 : Heap) (n0 : Nat) (v : Option Value) (h : Heap) (L : List Loc) : Prop := ∃ (r : Addr), v = some (.ref r) ∧ Fr n0 L ∧ Keep h0 h [] ∧ Old Z n0 h ∧ own_str Z h r (xl &&& (1 : Int32)) (own_b (xp &&& (255 : Int32))) (own_b (((xp.toUInt32 >>> ((8 : Int32) &&& 31).toUInt32).toInt32) &&& (255 : Int32))) ∧ (h0.size ≤ r)
set_option maxRecDepth 65536 in
set_option maxHeartbeats 40000000 in
theorem rm_exp (l : Launch) (Z : State) (a0 : Array Value) (hw : ∀ d ∈ tables_1, d.before a0 Z = true) (ws : List Jvm.Cond) (xp : Int32) (xl : Int32) (cz : Int32) (h0 : Heap) (n0 : Nat) (O0 : Old Z n0 h0) (G0 : Sta Z Z.heap "java/lang/String" "COMPACT_STRINGS" "Z" (.int cz)) (qz : ¬ (cz = (0 : Int32))) :
    MetFree l (⟨"com/example/homethread/homethread/cli/ScenarioReportExitStatusPinLaw", "exp", "(II)Ljava/lang/String;"⟩ : MethodName) (head1 (Jvm.Cond.code (⟨"com/example/homethread/homethread/cli/ScenarioReportExitStatusPinLaw", "exp", "(II)Ljava/lang/String;"⟩ : MethodName) method_5_code 2 (some (.object "java/lang/String")) :: ws) ({ frames := 5, cells := 3, slots := 8, locals := 80 } : Room)) (fun a U => a = #[(.int xp), (.int xl)] ∧ Z.Warmed39 U.vm ∧ U.heap = h0) (fun _ _ _ _ _ => True) (fun _ U o U' => ∃ v L, o = .returned v ∧ Q_exp Z xp xl cz h0 n0 v U'.heap L ∧ FrameEnd U o U' L ({ frames := 5, cells := 3, slots := 8, locals := 80 } : Room).cells ({ frames := 5, cells := 3, slots := 8, locals := 80 } : Room).slots) := by
  refine MetFree.of_bodySF (plainFor_of_name pn_0) hisR ?_
  intro p e s m args below meth c s₁ Bd hml0 hP hK
  have W := fun {d : Jvm.Cond} (i : Nat) (q : tables_1[i]? = some d) => hw d (List.mem_of_getElem? q)
  obtain ⟨rfl, hZ, hh⟩ := hP
  have hx := Bd.exec
  have hby := Bd.bytes
  have hml : c.maxLocals = 2 := hml0
  have hown : s.vm.findClass "com/example/homethread/homethread/cli/ScenarioReportExitStatusPinLaw" = some m.cls := findClass_of_methodNamed Bd.named
  have hnm := (name_of_methodNamed Bd.named Bd.method).1
  have X0 : Stand p l e ({ frames := 5, cells := 3, slots := 8, locals := 80 } : Room) s m #[(.int xp), (.int xl)] below meth c s₁ [] 0 0 := Stand.of_body Bd
  have e0 : s₁.heap = h0 := by rw [← hh, Bd.state]; rfl
  have N0 := Fr.nil n0
  have pre0 : ∀ t, Steps p.tables e below (s₁.setTop (mkF m 0 #[iv xp, iv xl] [])) t → Steps p.tables e below (s₁.setTop (entryFrame m #[(.int xp), (.int xl)] 2)) t := fun t k => castTop (ef_18 m xp xl) k
  have K0 : Keep h0 h0 [] := Keep.refl h0 []
  have pre624 : ∀ t, Steps p.tables e below (s₁.setTop (mkF m 16 #[iv xp, iv xl] [(.int (xl &&& (1 : Int32))), (.int (((xp.toUInt32 >>> ((8 : Int32) &&& 31).toUInt32).toInt32) &&& (255 : Int32))), (.int (xp &&& (255 : Int32)))])) t → Steps p.tables e below (s₁.setTop (entryFrame m #[(.int xp), (.int xl)] 2)) t := fun t kt => by
    refine pre0 _ ?_
    show Steps p.tables e below (s₁.setTop (mkF m 0 #[iv xp, iv xl] [])) _
    refine XS.iloadN X0.here hx rfl (hb hby d1_0) rfl ?_
    refine XS.sipush X0.here hx rfl (hb hby d1_1) ?_
    refine XS.iand X0.here hx rfl (hb hby d1_4) rfl ?_
    refine XS.iloadN X0.here hx rfl (hb hby d1_5) rfl ?_
    refine XS.bipush X0.here hx rfl (hb hby d1_6) ?_
    refine XS.iushr X0.here hx rfl (hb hby d1_8) rfl ?_
    refine XS.sipush X0.here hx rfl (hb hby d1_9) ?_
    refine XS.iand X0.here hx rfl (hb hby d1_12) rfl ?_
    show Steps p.tables e below (s₁.setTop (mkF m 13 #[iv xp, iv xl] [(.int (((xp.toUInt32 >>> ((8 : Int32) &&& 31).toUInt32).toInt32) &&& (255 : Int32))), (.int (xp &&& (255 : Int32)))])) _
    refine XS.iloadN X0.here hx rfl (hb hby d1_13) rfl ?_
    refine XS.iconst X0.here hx rfl (hb hby d1_14) ?_
    refine XS.iand X0.here hx rfl (hb hby d1_15) rfl ?_
    exact kt
  by_cases hc625 : (xl &&& (1 : Int32)) = (0 : Int32)
  · have pre626 : ∀ t, Steps p.tables e below (s₁.setTop (mkF m 24 #[iv xp, iv xl] [(.int (0 : Int32)), (.int (((xp.toUInt32 >>> ((8 : Int32) &&& 31).toUInt32).toInt32) &&& (255 : Int32))), (.int (xp &&& (255 : Int32)))])) t → Steps p.tables e below (s₁.setTop (entryFrame m #[(.int xp), (.int xl)] 2)) t := fun t kt => by
      refine pre624 _ ?_
      show Steps p.tables e below (s₁.setTop (mkF m 16 #[iv xp, iv xl] [(.int (xl &&& (1 : Int32))), (.int (((xp.toUInt32 >>> ((8 : Int32) &&& 31).toUInt32).toInt32) &&& (255 : Int32))), (.int (xp &&& (255 : Int32)))])) _
      refine XS.ifYes X0.here hx rfl (pc0 := 16) (pc' := 23) rfl (hb hby d1_16) rfl (XT.i0_eq_t hc625) (by decide) (by decide) ?_
      refine XS.iconst X0.here hx rfl (hb hby d1_23) ?_
      exact kt
    obtain ⟨_, _, ⟨T627, L627, k627, n627⟩, -, X627, ⟨Lc627, hQ627, l627, y627, z627⟩, st627⟩ := Jvm.LawKit.callS X0 hx (y := (⟨"com/example/homethread/homethread/cli/ScenarioReportExitStatusPinLaw", "str", "(IIZ)Ljava/lang/String;"⟩ : MethodName)) hown (mvT hZ (W 4 rfl)) (mvT hZ (W 5 rfl)) (mvT hZ (W 2 rfl)) (mvT hZ (W 6 rfl)) (by decide) (backOf (W := 0) (rm_str1 l Z a0 hw [] ((xp &&& (255 : Int32))) ((((xp.toUInt32 >>> ((8 : Int32) &&& 31).toUInt32).toInt32) &&& (255 : Int32))) cz h0 n0 O0 G0 qz (own_u8_mask _)) hZ (W 6 rfl) (W 2 rfl) (by decide) (by decide)) (g := (mkF m 24 #[iv xp, iv xl] [(.int (0 : Int32)), (.int (((xp.toUInt32 >>> ((8 : Int32) &&& 31).toUInt32).toInt32) &&& (255 : Int32))), (.int (xp &&& (255 : Int32)))])) rfl (by rw [hml]; rfl) (argsL := [(.int (xp &&& (255 : Int32))), (.int (((xp.toUInt32 >>> ((8 : Int32) &&& 31).toUInt32).toInt32) &&& (255 : Int32))), (.int (0 : Int32))]) (rest := []) (lenOf pd_19 rfl) rfl (by show 2 * 0 + _ ≤ _; exact Nat.le_of_eq rfl) (hb hby d1_24) (fun _ _ => ⟨rfl, e0, (by decide : 0 + 3 ≤ _), (by decide : 0 + 6 ≤ _)⟩)
    dsimp only [Pt.U, Pt.locs, Pt.cells, Pt.slots] at X627 l627 y627 z627 st627 hQ627
    replace l627 := l627.symm
    replace y627 : 3 = k627 := y627.symm
    replace z627 : 6 = n627 := z627.symm
    subst l627 y627 z627
    obtain ⟨r_627, rfl, M627, Kc627, O627, J627_0, P627_0⟩ := hQ627
    obtain ⟨h627, e627⟩ : ∃ z, T627.heap = z := ⟨_, rfl⟩
    rw [e627] at Kc627 O627 J627_0
    try rw [e627] at P627_0
    have N627 := Fr.app N0 M627
    have K627 : Keep h0 h627 [] := K0.trans Kc627 (own_all0 )
    have pre628 : ∀ t, Steps p.tables e below (T627.setTop (mkF m 27 #[iv xp, iv xl] [(.ref r_627)])) t → Steps p.tables e below (s₁.setTop (entryFrame m #[(.int xp), (.int xl)] 2)) t := fun t kt => pre626 _ (st627 _ kt)
    have sz_r_627 : h0.size ≤ r_627 := Nat.le_trans K0.1 P627_0
    have g_r_627 : n0 ≤ r_627 := Nat.le_trans (Nat.le_trans (Nat.le_of_eq O0.1.symm) O0.2.1) sz_r_627
    have F629 : own_str Z h627 r_627 (xl &&& (1 : Int32)) (own_b (xp &&& (255 : Int32))) (own_b (((xp.toUInt32 >>> ((8 : Int32) &&& 31).toUInt32).toInt32) &&& (255 : Int32))) := own_str_b J627_0 ⟨fun _ => hc625, fun _ => rfl⟩
    obtain ⟨fs, hr, hrun, hended, hW, hsame⟩ := X627.leave (v := some (.ref r_627)) (fun h => by rw [Bd.returns] at h; cases h)
    refine ⟨_, _, pre628 _ (X627.areturnOut hx rfl Bd.returns rfl (hb hby d1_27) hr), hrun, hended, _, _, rfl, ?_, ⟨_, rfl⟩, hW, hsame.mono (by decide) (by decide)⟩
    show Q_exp Z xp xl cz h0 n0 _ T627.heap _
    rw [e627]
    exact ⟨r_627, rfl, N627, K627, O627, F629, sz_r_627⟩
  · have pre630 : ∀ t, Steps p.tables e below (s₁.setTop (mkF m 24 #[iv xp, iv xl] [(.int (1 : Int32)), (.int (((xp.toUInt32 >>> ((8 : Int32) &&& 31).toUInt32).toInt32) &&& (255 : Int32))), (.int (xp &&& (255 : Int32)))])) t → Steps p.tables e below (s₁.setTop (entryFrame m #[(.int xp), (.int xl)] 2)) t := fun t kt => by
      refine pre624 _ ?_
      show Steps p.tables e below (s₁.setTop (mkF m 16 #[iv xp, iv xl] [(.int (xl &&& (1 : Int32))), (.int (((xp.toUInt32 >>> ((8 : Int32) &&& 31).toUInt32).toInt32) &&& (255 : Int32))), (.int (xp &&& (255 : Int32)))])) _
      refine XS.ifNo X0.here hx rfl (hb hby d1_16) rfl (XT.i0_eq_f hc625) ?_
      refine XS.iconst X0.here hx rfl (hb hby d1_19) ?_
      refine XS.goto X0.here hx rfl (pc0 := 20) (pc' := 24) rfl (hb hby d1_20) (by decide) (by decide) ?_
      exact kt
    obtain ⟨_, _, ⟨T631, L631, k631, n631⟩, -, X631, ⟨Lc631, hQ631, l631, y631, z631⟩, st631⟩ := Jvm.LawKit.callS X0 hx (y := (⟨"com/example/homethread/homethread/cli/ScenarioReportExitStatusPinLaw", "str", "(IIZ)Ljava/lang/String;"⟩ : MethodName)) hown (mvT hZ (W 4 rfl)) (mvT hZ (W 5 rfl)) (mvT hZ (W 2 rfl)) (mvT hZ (W 6 rfl)) (by decide) (backOf (W := 0) (rm_str2 l Z a0 hw [] ((xp &&& (255 : Int32))) ((((xp.toUInt32 >>> ((8 : Int32) &&& 31).toUInt32).toInt32) &&& (255 : Int32))) cz h0 n0 O0 G0 qz (own_u8_mask _) (own_u8_mask _)) hZ (W 6 rfl) (W 2 rfl) (by decide) (by decide)) (g := (mkF m 24 #[iv xp, iv xl] [(.int (1 : Int32)), (.int (((xp.toUInt32 >>> ((8 : Int32) &&& 31).toUInt32).toInt32) &&& (255 : Int32))), (.int (xp &&& (255 : Int32)))])) rfl (by rw [hml]; rfl) (argsL := [(.int (xp &&& (255 : Int32))), (.int (((xp.toUInt32 >>> ((8 : Int32) &&& 31).toUInt32).toInt32) &&& (255 : Int32))), (.int (1 : Int32))]) (rest := []) (lenOf pd_19 rfl) rfl (by show 2 * 0 + _ ≤ _; exact Nat.le_of_eq rfl) (hb hby d1_24) (fun _ _ => ⟨rfl, e0, (by decide : 0 + 3 ≤ _), (by decide : 0 + 8 ≤ _)⟩)
    dsimp only [Pt.U, Pt.locs, Pt.cells, Pt.slots] at X631 l631 y631 z631 st631 hQ631
    replace l631 := l631.symm
    replace y631 : 3 = k631 := y631.symm
    replace z631 : 8 = n631 := z631.symm
    subst l631 y631 z631
    obtain ⟨r_631, rfl, M631, Kc631, O631, J631_0, P631_0⟩ := hQ631
    obtain ⟨h631, e631⟩ : ∃ z, T631.heap = z := ⟨_, rfl⟩
    rw [e631] at Kc631 O631 J631_0
    try rw [e631] at P631_0
    have N631 := Fr.app N0 M631
    have K631 : Keep h0 h631 [] := K0.trans Kc631 (own_all0 )
    have pre632 : ∀ t, Steps p.tables e below (T631.setTop (mkF m 27 #[iv xp, iv xl] [(.ref r_631)])) t → Steps p.tables e below (s₁.setTop (entryFrame m #[(.int xp), (.int xl)] 2)) t := fun t kt => pre630 _ (st631 _ kt)
    have sz_r_631 : h0.size ≤ r_631 := Nat.le_trans K0.1 P631_0
    have g_r_631 : n0 ≤ r_631 := Nat.le_trans (Nat.le_trans (Nat.le_of_eq O0.1.symm) O0.2.1) sz_r_631
    have F633 : own_str Z h631 r_631 (xl &&& (1 : Int32)) (own_b (xp &&& (255 : Int32))) (own_b (((xp.toUInt32 >>> ((8 : Int32) &&& 31).toUInt32).toInt32) &&& (255 : Int32))) := own_str_b J631_0 ⟨fun z => absurd z (by decide), fun z => absurd z hc625⟩
    obtain ⟨fs, hr, hrun, hended, hW, hsame⟩ := X631.leave (v := some (.ref r_631)) (fun h => by rw [Bd.returns] at h; cases h)
    refine ⟨_, _, pre632 _ (X631.areturnOut hx rfl Bd.returns rfl (hb hby d1_27) hr), hrun, hended, _, _, rfl, ?_, ⟨_, rfl⟩, hW, hsame.mono (by decide) (by decide)⟩
    show Q_exp Z xp xl cz h0 n0 _ T631.heap _
    rw [e631]
    exact ⟨r_631, rfl, N631, K631, O631, F633, sz_r_631⟩
theorem ef_20 (m : MethodId) (x0 : Int32) (x1 : Int32) : entryFrame m #[(.int x0), (.int x1)] 2 = mkF m 0 #[.val (.int x0), .val (.int x1)] [] := by first | (simp [entryFrame, mkF, argsToLocals, Value.category]; done) | rfl
theorem d9_0 : decode method_6_code 0 = .ok (.iload_n 0, 1) := by decide +kernel
theorem d9_1 : decode method_6_code 1 = .ok (.sipush 255, 3) := by decide +kernel
theorem d9_4 : decode method_6_code 4 = .ok (.iand, 1) := by decide +kernel
theorem d9_5 : decode method_6_code 5 = .ok (.iload_n 0, 1) := by decide +kernel
theorem d9_6 : decode method_6_code 6 = .ok (.invokestatic 18, 3) := by decide +kernel
theorem d9_9 : decode method_6_code 9 = .ok (.ixor, 1) := by decide +kernel
theorem d9_10 : decode method_6_code 10 = .ok (.iload_n 0, 1) := by decide +kernel
theorem d9_11 : decode method_6_code 11 = .ok (.bipush 8, 2) := by decide +kernel
theorem d9_13 : decode method_6_code 13 = .ok (.iushr, 1) := by decide +kernel
theorem d9_14 : decode method_6_code 14 = .ok (.sipush 255, 3) := by decide +kernel
theorem d9_17 : decode method_6_code 17 = .ok (.iand, 1) := by decide +kernel
theorem d9_18 : decode method_6_code 18 = .ok (.iload_n 0, 1) := by decide +kernel
theorem d9_19 : decode method_6_code 19 = .ok (.invokestatic 22, 3) := by decide +kernel
theorem d9_22 : decode method_6_code 22 = .ok (.ixor, 1) := by decide +kernel
theorem d9_23 : decode method_6_code 23 = .ok (.iload_n 1, 1) := by decide +kernel
theorem d9_24 : decode method_6_code 24 = .ok (.iconst 2, 1) := by decide +kernel
theorem d9_25 : decode method_6_code 25 = .ok (.iand, 1) := by decide +kernel
theorem d9_26 : decode method_6_code 26 = .ok (.ifCond .eq 7, 3) := by decide +kernel
theorem d9_33 : decode method_6_code 33 = .ok (.iconst 0, 1) := by decide +kernel
theorem d9_34 : decode method_6_code 34 = .ok (.invokestatic 12, 3) := by decide +kernel
theorem d9_37 : decode method_6_code 37 = .ok (.areturn, 1) := by decide +kernel
theorem d9_29 : decode method_6_code 29 = .ok (.iconst 1, 1) := by decide +kernel
theorem d9_30 : decode method_6_code 30 = .ok (.goto 4, 3) := by decide +kernel
def Q_obs (Z : State) (xp : Int32) (xl : Int32) (cz : Int32) (h0 : Heap) (n0 : Nat) (v : Option Value) (h : Heap) (L : List Loc) : Prop := ∃ (r : Addr), v = some (.ref r) ∧ Fr n0 L ∧ Keep h0 h [] ∧ Old Z n0 h ∧ own_str Z h r (xl &&& (2 : Int32)) (own_b ((xp &&& (255 : Int32)) ^^^ (own_x0 xp))) (own_b ((((xp.toUInt32 >>> ((8 : Int32) &&& 31).toUInt32).toInt32) &&& (255 : Int32)) ^^^ (own_x1 xp))) ∧ (h0.size ≤ r)
set_option maxRecDepth 65536 in
set_option maxHeartbeats 40000000 in
theorem rm_obs (l : Launch) (Z : State) (a0 : Array Value) (hw : ∀ d ∈ tables_1, d.before a0 Z = true) (ws : List Jvm.Cond) (xp : Int32) (xl : Int32) (cz : Int32) (h0 : Heap) (n0 : Nat) (O0 : Old Z n0 h0) (G0 : Sta Z Z.heap "java/lang/String" "COMPACT_STRINGS" "Z" (.int cz)) (qz : ¬ (cz = (0 : Int32))) :
    MetFree l (⟨"com/example/homethread/homethread/cli/ScenarioReportExitStatusPinLaw", "obs", "(II)Ljava/lang/String;"⟩ : MethodName) (head1 (Jvm.Cond.code (⟨"com/example/homethread/homethread/cli/ScenarioReportExitStatusPinLaw", "obs", "(II)Ljava/lang/String;"⟩ : MethodName) method_6_code 2 (some (.object "java/lang/String")) :: ws) ({ frames := 5, cells := 3, slots := 8, locals := 80 } : Room)) (fun a U => a = #[(.int xp), (.int xl)] ∧ Z.Warmed39 U.vm ∧ U.heap = h0) (fun _ _ _ _ _ => True) (fun _ U o U' => ∃ v L, o = .returned v ∧ Q_obs Z xp xl cz h0 n0 v U'.heap L ∧ FrameEnd U o U' L ({ frames := 5, cells := 3, slots := 8, locals := 80 } : Room).cells ({ frames := 5, cells := 3, slots := 8, locals := 80 } : Room).slots) := by
  refine MetFree.of_bodySF (plainFor_of_name pn_0) hisR ?_
  intro p e s m args below meth c s₁ Bd hml0 hP hK
  have W := fun {d : Jvm.Cond} (i : Nat) (q : tables_1[i]? = some d) => hw d (List.mem_of_getElem? q)
  obtain ⟨rfl, hZ, hh⟩ := hP
  have hx := Bd.exec
  have hby := Bd.bytes
  have hml : c.maxLocals = 2 := hml0
  have hown : s.vm.findClass "com/example/homethread/homethread/cli/ScenarioReportExitStatusPinLaw" = some m.cls := findClass_of_methodNamed Bd.named
  have hnm := (name_of_methodNamed Bd.named Bd.method).1
  have X0 : Stand p l e ({ frames := 5, cells := 3, slots := 8, locals := 80 } : Room) s m #[(.int xp), (.int xl)] below meth c s₁ [] 0 0 := Stand.of_body Bd
  have e0 : s₁.heap = h0 := by rw [← hh, Bd.state]; rfl
  have N0 := Fr.nil n0
  have pre0 : ∀ t, Steps p.tables e below (s₁.setTop (mkF m 0 #[iv xp, iv xl] [])) t → Steps p.tables e below (s₁.setTop (entryFrame m #[(.int xp), (.int xl)] 2)) t := fun t k => castTop (ef_20 m xp xl) k
  have K0 : Keep h0 h0 [] := Keep.refl h0 []
  have pre634 : ∀ t, Steps p.tables e below (s₁.setTop (mkF m 6 #[iv xp, iv xl] [(.int xp), (.int (xp &&& (255 : Int32)))])) t → Steps p.tables e below (s₁.setTop (entryFrame m #[(.int xp), (.int xl)] 2)) t := fun t kt => by
    refine pre0 _ ?_
    show Steps p.tables e below (s₁.setTop (mkF m 0 #[iv xp, iv xl] [])) _
    refine XS.iloadN X0.here hx rfl (hb hby d9_0) rfl ?_
    refine XS.sipush X0.here hx rfl (hb hby d9_1) ?_
    refine XS.iand X0.here hx rfl (hb hby d9_4) rfl ?_
    refine XS.iloadN X0.here hx rfl (hb hby d9_5) rfl ?_
    exact kt
  obtain ⟨_, _, ⟨T635, L635, k635, n635⟩, -, X635, ⟨Lc635, hQ635, l635, y635, z635⟩, st635⟩ := Jvm.LawKit.callS X0 hx (y := (⟨"com/example/homethread/homethread/cli/ScenarioReportExitStatusPinLaw", "x0", "(I)I"⟩ : MethodName)) hown (mvT hZ (W 40 rfl)) (mvT hZ (W 41 rfl)) (mvT hZ (W 2 rfl)) (mvT hZ (W 42 rfl)) (by decide) (backOf (W := 1) (rm_x0 l Z a0 hw [] xp h0 n0 O0) hZ (W 42 rfl) (W 2 rfl) (by decide) (by decide)) (g := (mkF m 6 #[iv xp, iv xl] [(.int xp), (.int (xp &&& (255 : Int32)))])) rfl (by rw [hml]; rfl) (argsL := [(.int xp)]) (rest := [(.int (xp &&& (255 : Int32)))]) (lenOf pd_4 rfl) rfl (by show 2 * 0 + _ ≤ _; exact Nat.le_of_eq rfl) (hb hby d9_6) (fun _ _ => ⟨rfl, e0, (by decide : 0 + 0 ≤ _), (by decide : 0 + 0 ≤ _)⟩)
  dsimp only [Pt.U, Pt.locs, Pt.cells, Pt.slots] at X635 l635 y635 z635 st635 hQ635
  replace l635 := l635.symm
  replace y635 : 0 = k635 := y635.symm
  replace z635 : 0 = n635 := z635.symm
  subst l635 y635 z635
  obtain ⟨rfl, M635, e635⟩ := hQ635
  have N635 := Fr.app N0 M635
  have pre636 : ∀ t, Steps p.tables e below (T635.setTop (mkF m 9 #[iv xp, iv xl] [(.int (own_x0 xp)), (.int (xp &&& (255 : Int32)))])) t → Steps p.tables e below (s₁.setTop (entryFrame m #[(.int xp), (.int xl)] 2)) t := fun t kt => pre634 _ (st635 _ kt)
  have pre637 : ∀ t, Steps p.tables e below (T635.setTop (mkF m 19 #[iv xp, iv xl] [(.int xp), (.int (((xp.toUInt32 >>> ((8 : Int32) &&& 31).toUInt32).toInt32) &&& (255 : Int32))), (.int ((xp &&& (255 : Int32)) ^^^ (own_x0 xp)))])) t → Steps p.tables e below (s₁.setTop (entryFrame m #[(.int xp), (.int xl)] 2)) t := fun t kt => by
    refine pre636 _ ?_
    show Steps p.tables e below (T635.setTop (mkF m 9 #[iv xp, iv xl] [(.int (own_x0 xp)), (.int (xp &&& (255 : Int32)))])) _
    refine XS.ixor X635.here hx rfl (hb hby d9_9) rfl ?_
    refine XS.iloadN X635.here hx rfl (hb hby d9_10) rfl ?_
    refine XS.bipush X635.here hx rfl (hb hby d9_11) ?_
    refine XS.iushr X635.here hx rfl (hb hby d9_13) rfl ?_
    refine XS.sipush X635.here hx rfl (hb hby d9_14) ?_
    refine XS.iand X635.here hx rfl (hb hby d9_17) rfl ?_
    refine XS.iloadN X635.here hx rfl (hb hby d9_18) rfl ?_
    exact kt
  obtain ⟨_, _, ⟨T638, L638, k638, n638⟩, -, X638, ⟨Lc638, hQ638, l638, y638, z638⟩, st638⟩ := Jvm.LawKit.callS X635 hx (y := (⟨"com/example/homethread/homethread/cli/ScenarioReportExitStatusPinLaw", "x1", "(I)I"⟩ : MethodName)) hown (mvT hZ (W 43 rfl)) (mvT hZ (W 44 rfl)) (mvT hZ (W 2 rfl)) (mvT hZ (W 45 rfl)) (by decide) (backOf (W := 2) (rm_x1 l Z a0 hw [] xp h0 n0 O0) hZ (W 45 rfl) (W 2 rfl) (by decide) (by decide)) (g := (mkF m 19 #[iv xp, iv xl] [(.int xp), (.int (((xp.toUInt32 >>> ((8 : Int32) &&& 31).toUInt32).toInt32) &&& (255 : Int32))), (.int ((xp &&& (255 : Int32)) ^^^ (own_x0 xp)))])) rfl (by rw [hml]; rfl) (argsL := [(.int xp)]) (rest := [(.int (((xp.toUInt32 >>> ((8 : Int32) &&& 31).toUInt32).toInt32) &&& (255 : Int32))), (.int ((xp &&& (255 : Int32)) ^^^ (own_x0 xp)))]) (lenOf pd_4 rfl) rfl (by show 2 * 0 + _ ≤ _; exact Nat.le_of_eq rfl) (hb hby d9_19) (fun _ _ => ⟨rfl, e635, (by decide : 0 + 0 ≤ _), (by decide : 0 + 0 ≤ _)⟩)
  dsimp only [Pt.U, Pt.locs, Pt.cells, Pt.slots] at X638 l638 y638 z638 st638 hQ638
  replace l638 := l638.symm
  replace y638 : 0 = k638 := y638.symm
  replace z638 : 0 = n638 := z638.symm
  subst l638 y638 z638
  obtain ⟨rfl, M638, e638⟩ := hQ638
  have N638 := Fr.app N635 M638
  have pre639 : ∀ t, Steps p.tables e below (T638.setTop (mkF m 22 #[iv xp, iv xl] [(.int (own_x1 xp)), (.int (((xp.toUInt32 >>> ((8 : Int32) &&& 31).toUInt32).toInt32) &&& (255 : Int32))), (.int ((xp &&& (255 : Int32)) ^^^ (own_x0 xp)))])) t → Steps p.tables e below (s₁.setTop (entryFrame m #[(.int xp), (.int xl)] 2)) t := fun t kt => pre637 _ (st638 _ kt)
  have pre640 : ∀ t, Steps p.tables e below (T638.setTop (mkF m 26 #[iv xp, iv xl] [(.int (xl &&& (2 : Int32))), (.int ((((xp.toUInt32 >>> ((8 : Int32) &&& 31).toUInt32).toInt32) &&& (255 : Int32)) ^^^ (own_x1 xp))), (.int ((xp &&& (255 : Int32)) ^^^ (own_x0 xp)))])) t → Steps p.tables e below (s₁.setTop (entryFrame m #[(.int xp), (.int xl)] 2)) t := fun t kt => by
    refine pre639 _ ?_
    show Steps p.tables e below (T638.setTop (mkF m 22 #[iv xp, iv xl] [(.int (own_x1 xp)), (.int (((xp.toUInt32 >>> ((8 : Int32) &&& 31).toUInt32).toInt32) &&& (255 : Int32))), (.int ((xp &&& (255 : Int32)) ^^^ (own_x0 xp)))])) _
    refine XS.ixor X638.here hx rfl (hb hby d9_22) rfl ?_
    refine XS.iloadN X638.here hx rfl (hb hby d9_23) rfl ?_
    refine XS.iconst X638.here hx rfl (hb hby d9_24) ?_
    refine XS.iand X638.here hx rfl (hb hby d9_25) rfl ?_
    exact kt
  by_cases hc641 : (xl &&& (2 : Int32)) = (0 : Int32)
  · have pre642 : ∀ t, Steps p.tables e below (T638.setTop (mkF m 34 #[iv xp, iv xl] [(.int (0 : Int32)), (.int ((((xp.toUInt32 >>> ((8 : Int32) &&& 31).toUInt32).toInt32) &&& (255 : Int32)) ^^^ (own_x1 xp))), (.int ((xp &&& (255 : Int32)) ^^^ (own_x0 xp)))])) t → Steps p.tables e below (s₁.setTop (entryFrame m #[(.int xp), (.int xl)] 2)) t := fun t kt => by
      refine pre640 _ ?_
      show Steps p.tables e below (T638.setTop (mkF m 26 #[iv xp, iv xl] [(.int (xl &&& (2 : Int32))), (.int ((((xp.toUInt32 >>> ((8 : Int32) &&& 31).toUInt32).toInt32) &&& (255 : Int32)) ^^^ (own_x1 xp))), (.int ((xp &&& (255 : Int32)) ^^^ (own_x0 xp)))])) _
      refine XS.ifYes X638.here hx rfl (pc0 := 26) (pc' := 33) rfl (hb hby d9_26) rfl (XT.i0_eq_t hc641) (by decide) (by decide) ?_
      refine XS.iconst X638.here hx rfl (hb hby d9_33) ?_
      exact kt
    obtain ⟨_, _, ⟨T643, L643, k643, n643⟩, -, X643, ⟨Lc643, hQ643, l643, y643, z643⟩, st643⟩ := Jvm.LawKit.callS X638 hx (y := (⟨"com/example/homethread/homethread/cli/ScenarioReportExitStatusPinLaw", "str", "(IIZ)Ljava/lang/String;"⟩ : MethodName)) hown (mvT hZ (W 4 rfl)) (mvT hZ (W 5 rfl)) (mvT hZ (W 2 rfl)) (mvT hZ (W 6 rfl)) (by decide) (backOf (W := 0) (rm_str1 l Z a0 hw [] (((xp &&& (255 : Int32)) ^^^ (own_x0 xp))) (((((xp.toUInt32 >>> ((8 : Int32) &&& 31).toUInt32).toInt32) &&& (255 : Int32)) ^^^ (own_x1 xp))) cz h0 n0 O0 G0 qz (own_u8_o0 xp)) hZ (W 6 rfl) (W 2 rfl) (by decide) (by decide)) (g := (mkF m 34 #[iv xp, iv xl] [(.int (0 : Int32)), (.int ((((xp.toUInt32 >>> ((8 : Int32) &&& 31).toUInt32).toInt32) &&& (255 : Int32)) ^^^ (own_x1 xp))), (.int ((xp &&& (255 : Int32)) ^^^ (own_x0 xp)))])) rfl (by rw [hml]; rfl) (argsL := [(.int ((xp &&& (255 : Int32)) ^^^ (own_x0 xp))), (.int ((((xp.toUInt32 >>> ((8 : Int32) &&& 31).toUInt32).toInt32) &&& (255 : Int32)) ^^^ (own_x1 xp))), (.int (0 : Int32))]) (rest := []) (lenOf pd_19 rfl) rfl (by show 2 * 0 + _ ≤ _; exact Nat.le_of_eq rfl) (hb hby d9_34) (fun _ _ => ⟨rfl, e638, (by decide : 0 + 3 ≤ _), (by decide : 0 + 6 ≤ _)⟩)
    dsimp only [Pt.U, Pt.locs, Pt.cells, Pt.slots] at X643 l643 y643 z643 st643 hQ643
    replace l643 := l643.symm
    replace y643 : 3 = k643 := y643.symm
    replace z643 : 6 = n643 := z643.symm
    subst l643 y643 z643
    obtain ⟨r_643, rfl, M643, Kc643, O643, J643_0, P643_0⟩ := hQ643
    obtain ⟨h643, e643⟩ : ∃ z, T643.heap = z := ⟨_, rfl⟩
    rw [e643] at Kc643 O643 J643_0
    try rw [e643] at P643_0
    have N643 := Fr.app N638 M643
    have K643 : Keep h0 h643 [] := K0.trans Kc643 (own_all0 )
    have pre644 : ∀ t, Steps p.tables e below (T643.setTop (mkF m 37 #[iv xp, iv xl] [(.ref r_643)])) t → Steps p.tables e below (s₁.setTop (entryFrame m #[(.int xp), (.int xl)] 2)) t := fun t kt => pre642 _ (st643 _ kt)
    have sz_r_643 : h0.size ≤ r_643 := Nat.le_trans K0.1 P643_0
    have g_r_643 : n0 ≤ r_643 := Nat.le_trans (Nat.le_trans (Nat.le_of_eq O0.1.symm) O0.2.1) sz_r_643
    have F645 : own_str Z h643 r_643 (xl &&& (2 : Int32)) (own_b ((xp &&& (255 : Int32)) ^^^ (own_x0 xp))) (own_b ((((xp.toUInt32 >>> ((8 : Int32) &&& 31).toUInt32).toInt32) &&& (255 : Int32)) ^^^ (own_x1 xp))) := own_str_b J643_0 ⟨fun _ => hc641, fun _ => rfl⟩
    obtain ⟨fs, hr, hrun, hended, hW, hsame⟩ := X643.leave (v := some (.ref r_643)) (fun h => by rw [Bd.returns] at h; cases h)
    refine ⟨_, _, pre644 _ (X643.areturnOut hx rfl Bd.returns rfl (hb hby d9_37) hr), hrun, hended, _, _, rfl, ?_, ⟨_, rfl⟩, hW, hsame.mono (by decide) (by decide)⟩
    show Q_obs Z xp xl cz h0 n0 _ T643.heap _
    rw [e643]
    exact ⟨r_643, rfl, N643, K643, O643, F645, sz_r_643⟩
  · have pre646 : ∀ t, Steps p.tables e below (T638.setTop (mkF m 34 #[iv xp, iv xl] [(.int (1 : Int32)), (.int ((((xp.toUInt32 >>> ((8 : Int32) &&& 31).toUInt32).toInt32) &&& (255 : Int32)) ^^^ (own_x1 xp))), (.int ((xp &&& (255 : Int32)) ^^^ (own_x0 xp)))])) t → Steps p.tables e below (s₁.setTop (entryFrame m #[(.int xp), (.int xl)] 2)) t := fun t kt => by
      refine pre640 _ ?_
      show Steps p.tables e below (T638.setTop (mkF m 26 #[iv xp, iv xl] [(.int (xl &&& (2 : Int32))), (.int ((((xp.toUInt32 >>> ((8 : Int32) &&& 31).toUInt32).toInt32) &&& (255 : Int32)) ^^^ (own_x1 xp))), (.int ((xp &&& (255 : Int32)) ^^^ (own_x0 xp)))])) _
      refine XS.ifNo X638.here hx rfl (hb hby d9_26) rfl (XT.i0_eq_f hc641) ?_
      refine XS.iconst X638.here hx rfl (hb hby d9_29) ?_
      refine XS.goto X638.here hx rfl (pc0 := 30) (pc' := 34) rfl (hb hby d9_30) (by decide) (by decide) ?_
      exact kt
    obtain ⟨_, _, ⟨T647, L647, k647, n647⟩, -, X647, ⟨Lc647, hQ647, l647, y647, z647⟩, st647⟩ := Jvm.LawKit.callS X638 hx (y := (⟨"com/example/homethread/homethread/cli/ScenarioReportExitStatusPinLaw", "str", "(IIZ)Ljava/lang/String;"⟩ : MethodName)) hown (mvT hZ (W 4 rfl)) (mvT hZ (W 5 rfl)) (mvT hZ (W 2 rfl)) (mvT hZ (W 6 rfl)) (by decide) (backOf (W := 0) (rm_str2 l Z a0 hw [] (((xp &&& (255 : Int32)) ^^^ (own_x0 xp))) (((((xp.toUInt32 >>> ((8 : Int32) &&& 31).toUInt32).toInt32) &&& (255 : Int32)) ^^^ (own_x1 xp))) cz h0 n0 O0 G0 qz (own_u8_o0 xp) (own_u8_o1 xp)) hZ (W 6 rfl) (W 2 rfl) (by decide) (by decide)) (g := (mkF m 34 #[iv xp, iv xl] [(.int (1 : Int32)), (.int ((((xp.toUInt32 >>> ((8 : Int32) &&& 31).toUInt32).toInt32) &&& (255 : Int32)) ^^^ (own_x1 xp))), (.int ((xp &&& (255 : Int32)) ^^^ (own_x0 xp)))])) rfl (by rw [hml]; rfl) (argsL := [(.int ((xp &&& (255 : Int32)) ^^^ (own_x0 xp))), (.int ((((xp.toUInt32 >>> ((8 : Int32) &&& 31).toUInt32).toInt32) &&& (255 : Int32)) ^^^ (own_x1 xp))), (.int (1 : Int32))]) (rest := []) (lenOf pd_19 rfl) rfl (by show 2 * 0 + _ ≤ _; exact Nat.le_of_eq rfl) (hb hby d9_34) (fun _ _ => ⟨rfl, e638, (by decide : 0 + 3 ≤ _), (by decide : 0 + 8 ≤ _)⟩)
    dsimp only [Pt.U, Pt.locs, Pt.cells, Pt.slots] at X647 l647 y647 z647 st647 hQ647
    replace l647 := l647.symm
    replace y647 : 3 = k647 := y647.symm
    replace z647 : 8 = n647 := z647.symm
    subst l647 y647 z647
    obtain ⟨r_647, rfl, M647, Kc647, O647, J647_0, P647_0⟩ := hQ647
    obtain ⟨h647, e647⟩ : ∃ z, T647.heap = z := ⟨_, rfl⟩
    rw [e647] at Kc647 O647 J647_0
    try rw [e647] at P647_0
    have N647 := Fr.app N638 M647
    have K647 : Keep h0 h647 [] := K0.trans Kc647 (own_all0 )
    have pre648 : ∀ t, Steps p.tables e below (T647.setTop (mkF m 37 #[iv xp, iv xl] [(.ref r_647)])) t → Steps p.tables e below (s₁.setTop (entryFrame m #[(.int xp), (.int xl)] 2)) t := fun t kt => pre646 _ (st647 _ kt)
    have sz_r_647 : h0.size ≤ r_647 := Nat.le_trans K0.1 P647_0
    have g_r_647 : n0 ≤ r_647 := Nat.le_trans (Nat.le_trans (Nat.le_of_eq O0.1.symm) O0.2.1) sz_r_647
    have F649 : own_str Z h647 r_647 (xl &&& (2 : Int32)) (own_b ((xp &&& (255 : Int32)) ^^^ (own_x0 xp))) (own_b ((((xp.toUInt32 >>> ((8 : Int32) &&& 31).toUInt32).toInt32) &&& (255 : Int32)) ^^^ (own_x1 xp))) := own_str_b J647_0 ⟨fun z => absurd z (by decide), fun z => absurd z hc641⟩
    obtain ⟨fs, hr, hrun, hended, hW, hsame⟩ := X647.leave (v := some (.ref r_647)) (fun h => by rw [Bd.returns] at h; cases h)
    refine ⟨_, _, pre648 _ (X647.areturnOut hx rfl Bd.returns rfl (hb hby d9_37) hr), hrun, hended, _, _, rfl, ?_, ⟨_, rfl⟩, hW, hsame.mono (by decide) (by decide)⟩
    show Q_obs Z xp xl cz h0 n0 _ T647.heap _
    rw [e647]
    exact ⟨r_647, rfl, N647, K647, O647, F649, sz_r_647⟩
theorem ef_21 (m : MethodId) (x0 : Addr) (x1 : Addr) : entryFrame m #[(.ref x0), (.ref x1)] 3 = mkF m 0 #[.val (.ref x0), .val (.ref x1), .unset] [] := by first | (simp [entryFrame, mkF, argsToLocals, Value.category]; done) | rfl
theorem d24_0 : decode jdk_42_method_66_code 0 = .ok (.aload_n 0, 1) := by decide +kernel
theorem d24_1 : decode jdk_42_method_66_code 1 = .ok (.aload_n 1, 1) := by decide +kernel
theorem d24_2 : decode jdk_42_method_66_code 2 = .ok (.if_acmp .ne 5, 3) := by decide +kernel
theorem d24_7 : decode jdk_42_method_66_code 7 = .ok (.aload_n 1, 1) := by decide +kernel
theorem d24_8 : decode jdk_42_method_66_code 8 = .ok (.instanceof 10, 3) := by decide +kernel
theorem d24_11 : decode jdk_42_method_66_code 11 = .ok (.ifCond .eq 43, 3) := by decide +kernel
theorem d24_14 : decode jdk_42_method_66_code 14 = .ok (.aload_n 1, 1) := by decide +kernel
theorem d24_15 : decode jdk_42_method_66_code 15 = .ok (.checkcast 10, 3) := by decide +kernel
theorem d24_18 : decode jdk_42_method_66_code 18 = .ok (.astore_n 2, 1) := by decide +kernel
theorem d24_19 : decode jdk_42_method_66_code 19 = .ok (.getstatic 38, 3) := by decide +kernel
theorem d24_22 : decode jdk_42_method_66_code 22 = .ok (.ifCond .eq 14, 3) := by decide +kernel
theorem d24_25 : decode jdk_42_method_66_code 25 = .ok (.aload_n 0, 1) := by decide +kernel
theorem d24_26 : decode jdk_42_method_66_code 26 = .ok (.getfield 15, 3) := by decide +kernel
theorem d24_29 : decode jdk_42_method_66_code 29 = .ok (.aload_n 2, 1) := by decide +kernel
theorem d24_30 : decode jdk_42_method_66_code 30 = .ok (.getfield 15, 3) := by decide +kernel
theorem d24_33 : decode jdk_42_method_66_code 33 = .ok (.if_icmp .ne 21, 3) := by decide +kernel
theorem d24_36 : decode jdk_42_method_66_code 36 = .ok (.aload_n 0, 1) := by decide +kernel
theorem d24_37 : decode jdk_42_method_66_code 37 = .ok (.getfield 9, 3) := by decide +kernel
theorem d24_40 : decode jdk_42_method_66_code 40 = .ok (.aload_n 2, 1) := by decide +kernel
theorem d24_41 : decode jdk_42_method_66_code 41 = .ok (.getfield 9, 3) := by decide +kernel
theorem d24_44 : decode jdk_42_method_66_code 44 = .ok (.invokestatic 541, 3) := by decide +kernel
theorem d25_0 : decode jdk_43_method_13_code 0 = .ok (.aload_n 0, 1) := by decide +kernel
theorem d25_1 : decode jdk_43_method_13_code 1 = .ok (.arraylength, 1) := by decide +kernel
theorem d25_2 : decode jdk_43_method_13_code 2 = .ok (.aload_n 1, 1) := by decide +kernel
theorem d25_3 : decode jdk_43_method_13_code 3 = .ok (.arraylength, 1) := by decide +kernel
theorem d25_4 : decode jdk_43_method_13_code 4 = .ok (.if_icmp .ne 30, 3) := by decide +kernel
theorem d25_7 : decode jdk_43_method_13_code 7 = .ok (.iconst 0, 1) := by decide +kernel
theorem d25_8 : decode jdk_43_method_13_code 8 = .ok (.istore_n 2, 1) := by decide +kernel
theorem d25_9 : decode jdk_43_method_13_code 9 = .ok (.iload_n 2, 1) := by decide +kernel
theorem d25_10 : decode jdk_43_method_13_code 10 = .ok (.aload_n 0, 1) := by decide +kernel
theorem d25_11 : decode jdk_43_method_13_code 11 = .ok (.arraylength, 1) := by decide +kernel
theorem d25_12 : decode jdk_43_method_13_code 12 = .ok (.if_icmp .ge 20, 3) := by decide +kernel
theorem d25_15 : decode jdk_43_method_13_code 15 = .ok (.aload_n 0, 1) := by decide +kernel
theorem d25_16 : decode jdk_43_method_13_code 16 = .ok (.iload_n 2, 1) := by decide +kernel
theorem d25_17 : decode jdk_43_method_13_code 17 = .ok (.baload, 1) := by decide +kernel
theorem d25_18 : decode jdk_43_method_13_code 18 = .ok (.aload_n 1, 1) := by decide +kernel
theorem d25_19 : decode jdk_43_method_13_code 19 = .ok (.iload_n 2, 1) := by decide +kernel
theorem d25_20 : decode jdk_43_method_13_code 20 = .ok (.baload, 1) := by decide +kernel
theorem d25_21 : decode jdk_43_method_13_code 21 = .ok (.if_icmp .eq 5, 3) := by decide +kernel
theorem d25_26 : decode jdk_43_method_13_code 26 = .ok (.iinc 2 1, 3) := by decide +kernel
theorem d25_29 : decode jdk_43_method_13_code 29 = .ok (.goto (-20), 3) := by decide +kernel
theorem d25_32 : decode jdk_43_method_13_code 32 = .ok (.iconst 1, 1) := by decide +kernel
theorem d25_33 : decode jdk_43_method_13_code 33 = .ok (.ireturn, 1) := by decide +kernel
theorem pn_22 : plainName "java/lang/StringLatin1" = true := by first | (simp [plainName, overriddenIn]; done) | decide +kernel
theorem ef_23 (m : MethodId) (x0 : Addr) (x1 : Addr) : entryFrame m #[(.ref x0), (.ref x1)] 3 = mkF m 0 #[.val (.ref x0), .val (.ref x1), .unset] [] := by first | (simp [entryFrame, mkF, argsToLocals, Value.category]; done) | rfl
def Q_equals25_1 (Z : State) (t651 : Addr) (t653 : Addr) (c0 : Int32) (k651 : ClassId) (d0 : Int32) (k653 : ClassId) (h0 : Heap) (n0 : Nat) (v : Option Value) (h : Heap) (L : List Loc) : Prop := v = some (.int (1 : Int32)) ∧ Fr n0 L ∧ h = h0
set_option maxRecDepth 65536 in
set_option maxHeartbeats 40000000 in
theorem rm_equals25_1 (l : Launch) (Z : State) (a0 : Array Value) (hw : ∀ d ∈ tables_1, d.before a0 Z = true) (ws : List Jvm.Cond) (t651 : Addr) (t653 : Addr) (c0 : Int32) (k651 : ClassId) (d0 : Int32) (k653 : ClassId) (h0 : Heap) (n0 : Nat) (O0 : Old Z n0 h0) (Fi0 : Arv Z h0 t651 k651 .byte (1 : Int32) [(.int c0)] (.int (0 : Int32))) (Fi1 : Arv Z h0 t653 k653 .byte (1 : Int32) [(.int d0)] (.int (0 : Int32))) (q0 : d0 = c0) :
    MetFree l (⟨"java/lang/StringLatin1", "equals", "([B[B)Z"⟩ : MethodName) (head1 (Jvm.Cond.code (⟨"java/lang/StringLatin1", "equals", "([B[B)Z"⟩ : MethodName) jdk_43_method_13_code 3 (some .boolean) :: ws) ({ frames := 0, cells := 0, slots := 0, locals := 0 } : Room)) (fun a U => a = #[(.ref t651), (.ref t653)] ∧ Z.Warmed39 U.vm ∧ U.heap = h0) (fun _ _ _ _ _ => True) (fun _ U o U' => ∃ v L, o = .returned v ∧ Q_equals25_1 Z t651 t653 c0 k651 d0 k653 h0 n0 v U'.heap L ∧ FrameEnd U o U' L ({ frames := 0, cells := 0, slots := 0, locals := 0 } : Room).cells ({ frames := 0, cells := 0, slots := 0, locals := 0 } : Room).slots) := by
  refine MetFree.of_bodySF (plainFor_of_name pn_22) hisR ?_
  intro p e s m args below meth c s₁ Bd hml0 hP hK
  have W := fun {d : Jvm.Cond} (i : Nat) (q : tables_1[i]? = some d) => hw d (List.mem_of_getElem? q)
  obtain ⟨rfl, hZ, hh⟩ := hP
  have hx := Bd.exec
  have hby := Bd.bytes
  have hml : c.maxLocals = 3 := hml0
  have hown : s.vm.findClass "java/lang/StringLatin1" = some m.cls := findClass_of_methodNamed Bd.named
  have hnm := (name_of_methodNamed Bd.named Bd.method).1
  have X0 : Stand p l e ({ frames := 0, cells := 0, slots := 0, locals := 0 } : Room) s m #[(.ref t651), (.ref t653)] below meth c s₁ [] 0 0 := Stand.of_body Bd
  have e0 : s₁.heap = h0 := by rw [← hh, Bd.state]; rfl
  have N0 := Fr.nil n0
  have pre0 : ∀ t, Steps p.tables e below (s₁.setTop (mkF m 0 #[rv t651, rv t653, .unset] [])) t → Steps p.tables e below (s₁.setTop (entryFrame m #[(.ref t651), (.ref t653)] 3)) t := fun t k => castTop (ef_23 m t651 t653) k
  have K0 : Keep h0 h0 [] := Keep.refl h0 []
  have pre715 : ∀ t, Steps p.tables e below (s₁.setTop (mkF m 1 #[rv t651, rv t653, .unset] [(.ref t651)])) t → Steps p.tables e below (s₁.setTop (entryFrame m #[(.ref t651), (.ref t653)] 3)) t := fun t kt => by
    refine pre0 _ ?_
    show Steps p.tables e below (s₁.setTop (mkF m 0 #[rv t651, rv t653, .unset] [])) _
    refine XS.aloadN X0.here hx rfl (hb hby d25_0) rfl rfl ?_
    exact kt
  obtain ⟨c714, Ar714, -, S714, M714, -, -⟩ := id Fi0
  have pre717 : ∀ t, Steps p.tables e below (s₁.setTop (mkF m 3 #[rv t651, rv t653, .unset] [(.ref t653), (.int (1 : Int32))])) t → Steps p.tables e below (s₁.setTop (entryFrame m #[(.ref t651), (.ref t653)] 3)) t := fun t kt => by
    refine pre715 _ ?_
    show Steps p.tables e below (s₁.setTop (mkF m 1 #[rv t651, rv t653, .unset] [(.ref t651)])) _
    refine X0.arraylength hx (by rw [e0]; exact Ar714.1) (State.isArrayOf_alike hZ.alike Ar714.2.1) (g := (mkF m 1 #[rv t651, rv t653, .unset] [(.ref t651)])) rfl rfl (hb hby d25_1) _ ?_
    rw [len_of S714 M714]
    refine XS.aloadN X0.here hx rfl (hb hby d25_2) rfl rfl ?_
    exact kt
  obtain ⟨c716, Ar716, -, S716, M716, -, -⟩ := id Fi1
  have pre719 : ∀ t, Steps p.tables e below (s₁.setTop (mkF m 11 #[rv t651, rv t653, iv (0 : Int32)] [(.ref t651), (.int (0 : Int32))])) t → Steps p.tables e below (s₁.setTop (entryFrame m #[(.ref t651), (.ref t653)] 3)) t := fun t kt => by
    refine pre717 _ ?_
    show Steps p.tables e below (s₁.setTop (mkF m 3 #[rv t651, rv t653, .unset] [(.ref t653), (.int (1 : Int32))])) _
    refine X0.arraylength hx (by rw [e0]; exact Ar716.1) (State.isArrayOf_alike hZ.alike Ar716.2.1) (g := (mkF m 3 #[rv t651, rv t653, .unset] [(.ref t653), (.int (1 : Int32))])) rfl rfl (hb hby d25_3) _ ?_
    rw [len_of S716 M716]
    refine XS.icmpNo X0.here hx rfl (hb hby d25_4) rfl (XT.ii_ne_f (by decide)) ?_
    refine XS.iconst X0.here hx rfl (hb hby d25_7) ?_
    refine XS.istoreN X0.here hx rfl (hb hby d25_8) rfl (l' := #[rv t651, rv t653, iv (0 : Int32)]) rfl ?_
    refine XS.iloadN X0.here hx rfl (hb hby d25_9) rfl ?_
    refine XS.aloadN X0.here hx rfl (hb hby d25_10) rfl rfl ?_
    exact kt
  obtain ⟨c718, Ar718, -, S718, M718, -, -⟩ := id Fi0
  have pre721 : ∀ t, Steps p.tables e below (s₁.setTop (mkF m 17 #[rv t651, rv t653, iv (0 : Int32)] [(.int (0 : Int32)), (.ref t651)])) t → Steps p.tables e below (s₁.setTop (entryFrame m #[(.ref t651), (.ref t653)] 3)) t := fun t kt => by
    refine pre719 _ ?_
    show Steps p.tables e below (s₁.setTop (mkF m 11 #[rv t651, rv t653, iv (0 : Int32)] [(.ref t651), (.int (0 : Int32))])) _
    refine X0.arraylength hx (by rw [e0]; exact Ar718.1) (State.isArrayOf_alike hZ.alike Ar718.2.1) (g := (mkF m 11 #[rv t651, rv t653, iv (0 : Int32)] [(.ref t651), (.int (0 : Int32))])) rfl rfl (hb hby d25_11) _ ?_
    rw [len_of S718 M718]
    refine XS.icmpNo X0.here hx rfl (hb hby d25_12) rfl (XT.ii_ge_f (by decide)) ?_
    refine XS.aloadN X0.here hx rfl (hb hby d25_15) rfl rfl ?_
    refine XS.iloadN X0.here hx rfl (hb hby d25_16) rfl ?_
    exact kt
  obtain ⟨c720, Ar720, q720, S720, M720, H720, G720⟩ := id Fi0
  have i720 : ¬ ((0 : Int32) < 0 ∨ c720.slots.size ≤ ((0 : Int32)).toNatClampNeg) := inb_of S720 ⟨by decide, by decide⟩
  have t720 : c720.slots[((0 : Int32)).toNatClampNeg]? = some (.int c0) := Has.at H720 i720 rfl
  have pre723 : ∀ t, Steps p.tables e below (s₁.setTop (mkF m 20 #[rv t651, rv t653, iv (0 : Int32)] [(.int (0 : Int32)), (.ref t653), (.int c0)])) t → Steps p.tables e below (s₁.setTop (entryFrame m #[(.ref t651), (.ref t653)] 3)) t := fun t kt => by
    refine pre721 _ ?_
    show Steps p.tables e below (s₁.setTop (mkF m 17 #[rv t651, rv t653, iv (0 : Int32)] [(.int (0 : Int32)), (.ref t651)])) _
    refine X0.baloadBytes hx (j := (0 : Int32)) (v := (.int c0)) (by rw [e0]; exact Ar720.1) (State.isArrayOf_alike hZ.alike Ar720.2.1) Ar720.2.2 i720 t720 (g := (mkF m 17 #[rv t651, rv t653, iv (0 : Int32)] [(.int (0 : Int32)), (.ref t651)])) rfl rfl (hb hby d25_17) _ ?_
    refine XS.aloadN X0.here hx rfl (hb hby d25_18) rfl rfl ?_
    refine XS.iloadN X0.here hx rfl (hb hby d25_19) rfl ?_
    exact kt
  obtain ⟨c722, Ar722, q722, S722, M722, H722, G722⟩ := id Fi1
  have i722 : ¬ ((0 : Int32) < 0 ∨ c722.slots.size ≤ ((0 : Int32)).toNatClampNeg) := inb_of S722 ⟨by decide, by decide⟩
  have t722 : c722.slots[((0 : Int32)).toNatClampNeg]? = some (.int d0) := Has.at H722 i722 rfl
  have pre725 : ∀ t, Steps p.tables e below (s₁.setTop (mkF m 11 #[rv t651, rv t653, iv (1 : Int32)] [(.ref t651), (.int (1 : Int32))])) t → Steps p.tables e below (s₁.setTop (entryFrame m #[(.ref t651), (.ref t653)] 3)) t := fun t kt => by
    refine pre723 _ ?_
    show Steps p.tables e below (s₁.setTop (mkF m 20 #[rv t651, rv t653, iv (0 : Int32)] [(.int (0 : Int32)), (.ref t653), (.int c0)])) _
    refine X0.baloadBytes hx (j := (0 : Int32)) (v := (.int d0)) (by rw [e0]; exact Ar722.1) (State.isArrayOf_alike hZ.alike Ar722.2.1) Ar722.2.2 i722 t722 (g := (mkF m 20 #[rv t651, rv t653, iv (0 : Int32)] [(.int (0 : Int32)), (.ref t653), (.int c0)])) rfl rfl (hb hby d25_20) _ ?_
    refine XS.icmpYes X0.here hx rfl (pc0 := 21) (pc' := 26) rfl (hb hby d25_21) rfl (XT.ii_eq_t q0.symm) (by decide) (by decide) ?_
    refine XS.iinc X0.here hx rfl (hb hby d25_26) rfl (l' := #[rv t651, rv t653, iv ((0 : Int32) + (1 : Int32))]) rfl ?_
    show  Steps p.tables e below (s₁.setTop (mkF m 29 #[rv t651, rv t653, iv ((0 : Int32) + (1 : Int32))] [])) _
    rw [(by decide : (((0 : Int32) + (1 : Int32)) : Int32) = (1 : Int32))]
    refine XS.goto X0.here hx rfl (pc0 := 29) (pc' := 9) rfl (hb hby d25_29) (by decide) (by decide) ?_
    refine XS.iloadN X0.here hx rfl (hb hby d25_9) rfl ?_
    refine XS.aloadN X0.here hx rfl (hb hby d25_10) rfl rfl ?_
    exact kt
  obtain ⟨c724, Ar724, -, S724, M724, -, -⟩ := id Fi0
  have pre726 : ∀ t, Steps p.tables e below (s₁.setTop (mkF m 33 #[rv t651, rv t653, iv (1 : Int32)] [(.int (1 : Int32))])) t → Steps p.tables e below (s₁.setTop (entryFrame m #[(.ref t651), (.ref t653)] 3)) t := fun t kt => by
    refine pre725 _ ?_
    show Steps p.tables e below (s₁.setTop (mkF m 11 #[rv t651, rv t653, iv (1 : Int32)] [(.ref t651), (.int (1 : Int32))])) _
    refine X0.arraylength hx (by rw [e0]; exact Ar724.1) (State.isArrayOf_alike hZ.alike Ar724.2.1) (g := (mkF m 11 #[rv t651, rv t653, iv (1 : Int32)] [(.ref t651), (.int (1 : Int32))])) rfl rfl (hb hby d25_11) _ ?_
    rw [len_of S724 M724]
    refine XS.icmpYes X0.here hx rfl (pc0 := 12) (pc' := 32) rfl (hb hby d25_12) rfl (XT.ii_ge_t (by decide)) (by decide) (by decide) ?_
    refine XS.iconst X0.here hx rfl (hb hby d25_32) ?_
    exact kt
  obtain ⟨fs, hr, hrun, hended, hW, hsame⟩ := X0.leave (v := some (.int (1 : Int32))) (fun h => by rw [Bd.returns] at h; cases h)
  refine ⟨_, _, pre726 _ (retN X0 hx (t := .boolean) Bd.returns (by simp) (hb hby d25_33) hr), hrun, hended, _, _, rfl, ?_, ⟨_, rfl⟩, hW, hsame.mono (by decide) (by decide)⟩
  show Q_equals25_1 Z t651 t653 c0 k651 d0 k653 h0 n0 _ s₁.heap _
  rw [e0]
  exact ⟨rfl, N0, rfl⟩
theorem pd_24 : parseMethodDescriptor "([B[B)Z" = some ⟨[(.array .byte), (.array .byte)], some .boolean⟩ := by decide +kernel
theorem d24_47 : decode jdk_42_method_66_code 47 = .ok (.ifCond .eq 7, 3) := by decide +kernel
theorem d24_50 : decode jdk_42_method_66_code 50 = .ok (.iconst 1, 1) := by decide +kernel
theorem d24_51 : decode jdk_42_method_66_code 51 = .ok (.goto 4, 3) := by decide +kernel
theorem d24_55 : decode jdk_42_method_66_code 55 = .ok (.ireturn, 1) := by decide +kernel
theorem d25_24 : decode jdk_43_method_13_code 24 = .ok (.iconst 0, 1) := by decide +kernel
theorem d25_25 : decode jdk_43_method_13_code 25 = .ok (.ireturn, 1) := by decide +kernel
def Q_equals25_2 (Z : State) (t651 : Addr) (t653 : Addr) (c0 : Int32) (k651 : ClassId) (d0 : Int32) (k653 : ClassId) (h0 : Heap) (n0 : Nat) (v : Option Value) (h : Heap) (L : List Loc) : Prop := v = some (.int (0 : Int32)) ∧ Fr n0 L ∧ h = h0
set_option maxRecDepth 65536 in
set_option maxHeartbeats 40000000 in
theorem rm_equals25_2 (l : Launch) (Z : State) (a0 : Array Value) (hw : ∀ d ∈ tables_1, d.before a0 Z = true) (ws : List Jvm.Cond) (t651 : Addr) (t653 : Addr) (c0 : Int32) (k651 : ClassId) (d0 : Int32) (k653 : ClassId) (h0 : Heap) (n0 : Nat) (O0 : Old Z n0 h0) (Fi0 : Arv Z h0 t651 k651 .byte (1 : Int32) [(.int c0)] (.int (0 : Int32))) (Fi1 : Arv Z h0 t653 k653 .byte (1 : Int32) [(.int d0)] (.int (0 : Int32))) (q0 : ¬ (d0 = c0)) :
    MetFree l (⟨"java/lang/StringLatin1", "equals", "([B[B)Z"⟩ : MethodName) (head1 (Jvm.Cond.code (⟨"java/lang/StringLatin1", "equals", "([B[B)Z"⟩ : MethodName) jdk_43_method_13_code 3 (some .boolean) :: ws) ({ frames := 0, cells := 0, slots := 0, locals := 0 } : Room)) (fun a U => a = #[(.ref t651), (.ref t653)] ∧ Z.Warmed39 U.vm ∧ U.heap = h0) (fun _ _ _ _ _ => True) (fun _ U o U' => ∃ v L, o = .returned v ∧ Q_equals25_2 Z t651 t653 c0 k651 d0 k653 h0 n0 v U'.heap L ∧ FrameEnd U o U' L ({ frames := 0, cells := 0, slots := 0, locals := 0 } : Room).cells ({ frames := 0, cells := 0, slots := 0, locals := 0 } : Room).slots) := by
  refine MetFree.of_bodySF (plainFor_of_name pn_22) hisR ?_
  intro p e s m args below meth c s₁ Bd hml0 hP hK
  have W := fun {d : Jvm.Cond} (i : Nat) (q : tables_1[i]? = some d) => hw d (List.mem_of_getElem? q)
  obtain ⟨rfl, hZ, hh⟩ := hP
  have hx := Bd.exec
  have hby := Bd.bytes
  have hml : c.maxLocals = 3 := hml0
  have hown : s.vm.findClass "java/lang/StringLatin1" = some m.cls := findClass_of_methodNamed Bd.named
  have hnm := (name_of_methodNamed Bd.named Bd.method).1
  have X0 : Stand p l e ({ frames := 0, cells := 0, slots := 0, locals := 0 } : Room) s m #[(.ref t651), (.ref t653)] below meth c s₁ [] 0 0 := Stand.of_body Bd
  have e0 : s₁.heap = h0 := by rw [← hh, Bd.state]; rfl
  have N0 := Fr.nil n0
  have pre0 : ∀ t, Steps p.tables e below (s₁.setTop (mkF m 0 #[rv t651, rv t653, .unset] [])) t → Steps p.tables e below (s₁.setTop (entryFrame m #[(.ref t651), (.ref t653)] 3)) t := fun t k => castTop (ef_23 m t651 t653) k
  have K0 : Keep h0 h0 [] := Keep.refl h0 []
  have pre753 : ∀ t, Steps p.tables e below (s₁.setTop (mkF m 1 #[rv t651, rv t653, .unset] [(.ref t651)])) t → Steps p.tables e below (s₁.setTop (entryFrame m #[(.ref t651), (.ref t653)] 3)) t := fun t kt => by
    refine pre0 _ ?_
    show Steps p.tables e below (s₁.setTop (mkF m 0 #[rv t651, rv t653, .unset] [])) _
    refine XS.aloadN X0.here hx rfl (hb hby d25_0) rfl rfl ?_
    exact kt
  obtain ⟨c752, Ar752, -, S752, M752, -, -⟩ := id Fi0
  have pre755 : ∀ t, Steps p.tables e below (s₁.setTop (mkF m 3 #[rv t651, rv t653, .unset] [(.ref t653), (.int (1 : Int32))])) t → Steps p.tables e below (s₁.setTop (entryFrame m #[(.ref t651), (.ref t653)] 3)) t := fun t kt => by
    refine pre753 _ ?_
    show Steps p.tables e below (s₁.setTop (mkF m 1 #[rv t651, rv t653, .unset] [(.ref t651)])) _
    refine X0.arraylength hx (by rw [e0]; exact Ar752.1) (State.isArrayOf_alike hZ.alike Ar752.2.1) (g := (mkF m 1 #[rv t651, rv t653, .unset] [(.ref t651)])) rfl rfl (hb hby d25_1) _ ?_
    rw [len_of S752 M752]
    refine XS.aloadN X0.here hx rfl (hb hby d25_2) rfl rfl ?_
    exact kt
  obtain ⟨c754, Ar754, -, S754, M754, -, -⟩ := id Fi1
  have pre757 : ∀ t, Steps p.tables e below (s₁.setTop (mkF m 11 #[rv t651, rv t653, iv (0 : Int32)] [(.ref t651), (.int (0 : Int32))])) t → Steps p.tables e below (s₁.setTop (entryFrame m #[(.ref t651), (.ref t653)] 3)) t := fun t kt => by
    refine pre755 _ ?_
    show Steps p.tables e below (s₁.setTop (mkF m 3 #[rv t651, rv t653, .unset] [(.ref t653), (.int (1 : Int32))])) _
    refine X0.arraylength hx (by rw [e0]; exact Ar754.1) (State.isArrayOf_alike hZ.alike Ar754.2.1) (g := (mkF m 3 #[rv t651, rv t653, .unset] [(.ref t653), (.int (1 : Int32))])) rfl rfl (hb hby d25_3) _ ?_
    rw [len_of S754 M754]
    refine XS.icmpNo X0.here hx rfl (hb hby d25_4) rfl (XT.ii_ne_f (by decide)) ?_
    refine XS.iconst X0.here hx rfl (hb hby d25_7) ?_
    refine XS.istoreN X0.here hx rfl (hb hby d25_8) rfl (l' := #[rv t651, rv t653, iv (0 : Int32)]) rfl ?_
    refine XS.iloadN X0.here hx rfl (hb hby d25_9) rfl ?_
    refine XS.aloadN X0.here hx rfl (hb hby d25_10) rfl rfl ?_
    exact kt
  obtain ⟨c756, Ar756, -, S756, M756, -, -⟩ := id Fi0
  have pre759 : ∀ t, Steps p.tables e below (s₁.setTop (mkF m 17 #[rv t651, rv t653, iv (0 : Int32)] [(.int (0 : Int32)), (.ref t651)])) t → Steps p.tables e below (s₁.setTop (entryFrame m #[(.ref t651), (.ref t653)] 3)) t := fun t kt => by
    refine pre757 _ ?_
    show Steps p.tables e below (s₁.setTop (mkF m 11 #[rv t651, rv t653, iv (0 : Int32)] [(.ref t651), (.int (0 : Int32))])) _
    refine X0.arraylength hx (by rw [e0]; exact Ar756.1) (State.isArrayOf_alike hZ.alike Ar756.2.1) (g := (mkF m 11 #[rv t651, rv t653, iv (0 : Int32)] [(.ref t651), (.int (0 : Int32))])) rfl rfl (hb hby d25_11) _ ?_
    rw [len_of S756 M756]
    refine XS.icmpNo X0.here hx rfl (hb hby d25_12) rfl (XT.ii_ge_f (by decide)) ?_
    refine XS.aloadN X0.here hx rfl (hb hby d25_15) rfl rfl ?_
    refine XS.iloadN X0.here hx rfl (hb hby d25_16) rfl ?_
    exact kt
  obtain ⟨c758, Ar758, q758, S758, M758, H758, G758⟩ := id Fi0
  have i758 : ¬ ((0 : Int32) < 0 ∨ c758.slots.size ≤ ((0 : Int32)).toNatClampNeg) := inb_of S758 ⟨by decide, by decide⟩
  have t758 : c758.slots[((0 : Int32)).toNatClampNeg]? = some (.int c0) := Has.at H758 i758 rfl
  have pre761 : ∀ t, Steps p.tables e below (s₁.setTop (mkF m 20 #[rv t651, rv t653, iv (0 : Int32)] [(.int (0 : Int32)), (.ref t653), (.int c0)])) t → Steps p.tables e below (s₁.setTop (entryFrame m #[(.ref t651), (.ref t653)] 3)) t := fun t kt => by
    refine pre759 _ ?_
    show Steps p.tables e below (s₁.setTop (mkF m 17 #[rv t651, rv t653, iv (0 : Int32)] [(.int (0 : Int32)), (.ref t651)])) _
    refine X0.baloadBytes hx (j := (0 : Int32)) (v := (.int c0)) (by rw [e0]; exact Ar758.1) (State.isArrayOf_alike hZ.alike Ar758.2.1) Ar758.2.2 i758 t758 (g := (mkF m 17 #[rv t651, rv t653, iv (0 : Int32)] [(.int (0 : Int32)), (.ref t651)])) rfl rfl (hb hby d25_17) _ ?_
    refine XS.aloadN X0.here hx rfl (hb hby d25_18) rfl rfl ?_
    refine XS.iloadN X0.here hx rfl (hb hby d25_19) rfl ?_
    exact kt
  obtain ⟨c760, Ar760, q760, S760, M760, H760, G760⟩ := id Fi1
  have i760 : ¬ ((0 : Int32) < 0 ∨ c760.slots.size ≤ ((0 : Int32)).toNatClampNeg) := inb_of S760 ⟨by decide, by decide⟩
  have t760 : c760.slots[((0 : Int32)).toNatClampNeg]? = some (.int d0) := Has.at H760 i760 rfl
  have pre762 : ∀ t, Steps p.tables e below (s₁.setTop (mkF m 25 #[rv t651, rv t653, iv (0 : Int32)] [(.int (0 : Int32))])) t → Steps p.tables e below (s₁.setTop (entryFrame m #[(.ref t651), (.ref t653)] 3)) t := fun t kt => by
    refine pre761 _ ?_
    show Steps p.tables e below (s₁.setTop (mkF m 20 #[rv t651, rv t653, iv (0 : Int32)] [(.int (0 : Int32)), (.ref t653), (.int c0)])) _
    refine X0.baloadBytes hx (j := (0 : Int32)) (v := (.int d0)) (by rw [e0]; exact Ar760.1) (State.isArrayOf_alike hZ.alike Ar760.2.1) Ar760.2.2 i760 t760 (g := (mkF m 20 #[rv t651, rv t653, iv (0 : Int32)] [(.int (0 : Int32)), (.ref t653), (.int c0)])) rfl rfl (hb hby d25_20) _ ?_
    refine XS.icmpNo X0.here hx rfl (hb hby d25_21) rfl (XT.ii_eq_f (fun q => q0 q.symm)) ?_
    refine XS.iconst X0.here hx rfl (hb hby d25_24) ?_
    exact kt
  obtain ⟨fs, hr, hrun, hended, hW, hsame⟩ := X0.leave (v := some (.int (0 : Int32))) (fun h => by rw [Bd.returns] at h; cases h)
  refine ⟨_, _, pre762 _ (retN X0 hx (t := .boolean) Bd.returns (by simp) (hb hby d25_25) hr), hrun, hended, _, _, rfl, ?_, ⟨_, rfl⟩, hW, hsame.mono (by decide) (by decide)⟩
  show Q_equals25_2 Z t651 t653 c0 k651 d0 k653 h0 n0 _ s₁.heap _
  rw [e0]
  exact ⟨rfl, N0, rfl⟩
theorem d24_54 : decode jdk_42_method_66_code 54 = .ok (.iconst 0, 1) := by decide +kernel
theorem d25_34 : decode jdk_43_method_13_code 34 = .ok (.iconst 0, 1) := by decide +kernel
theorem d25_35 : decode jdk_43_method_13_code 35 = .ok (.ireturn, 1) := by decide +kernel
def Q_equals25_3 (Z : State) (t651 : Addr) (t765 : Addr) (c0 : Int32) (k651 : ClassId) (d0 : Int32) (d1 : Int32) (k765 : ClassId) (h0 : Heap) (n0 : Nat) (v : Option Value) (h : Heap) (L : List Loc) : Prop := v = some (.int (0 : Int32)) ∧ Fr n0 L ∧ h = h0
set_option maxRecDepth 65536 in
set_option maxHeartbeats 40000000 in
theorem rm_equals25_3 (l : Launch) (Z : State) (a0 : Array Value) (hw : ∀ d ∈ tables_1, d.before a0 Z = true) (ws : List Jvm.Cond) (t651 : Addr) (t765 : Addr) (c0 : Int32) (k651 : ClassId) (d0 : Int32) (d1 : Int32) (k765 : ClassId) (h0 : Heap) (n0 : Nat) (O0 : Old Z n0 h0) (Fi0 : Arv Z h0 t651 k651 .byte (1 : Int32) [(.int c0)] (.int (0 : Int32))) (Fi1 : Arv Z h0 t765 k765 .byte (2 : Int32) [(.int d0), (.int d1)] (.int (0 : Int32))) :
    MetFree l (⟨"java/lang/StringLatin1", "equals", "([B[B)Z"⟩ : MethodName) (head1 (Jvm.Cond.code (⟨"java/lang/StringLatin1", "equals", "([B[B)Z"⟩ : MethodName) jdk_43_method_13_code 3 (some .boolean) :: ws) ({ frames := 0, cells := 0, slots := 0, locals := 0 } : Room)) (fun a U => a = #[(.ref t651), (.ref t765)] ∧ Z.Warmed39 U.vm ∧ U.heap = h0) (fun _ _ _ _ _ => True) (fun _ U o U' => ∃ v L, o = .returned v ∧ Q_equals25_3 Z t651 t765 c0 k651 d0 d1 k765 h0 n0 v U'.heap L ∧ FrameEnd U o U' L ({ frames := 0, cells := 0, slots := 0, locals := 0 } : Room).cells ({ frames := 0, cells := 0, slots := 0, locals := 0 } : Room).slots) := by
  refine MetFree.of_bodySF (plainFor_of_name pn_22) hisR ?_
  intro p e s m args below meth c s₁ Bd hml0 hP hK
  have W := fun {d : Jvm.Cond} (i : Nat) (q : tables_1[i]? = some d) => hw d (List.mem_of_getElem? q)
  obtain ⟨rfl, hZ, hh⟩ := hP
  have hx := Bd.exec
  have hby := Bd.bytes
  have hml : c.maxLocals = 3 := hml0
  have hown : s.vm.findClass "java/lang/StringLatin1" = some m.cls := findClass_of_methodNamed Bd.named
  have hnm := (name_of_methodNamed Bd.named Bd.method).1
  have X0 : Stand p l e ({ frames := 0, cells := 0, slots := 0, locals := 0 } : Room) s m #[(.ref t651), (.ref t765)] below meth c s₁ [] 0 0 := Stand.of_body Bd
  have e0 : s₁.heap = h0 := by rw [← hh, Bd.state]; rfl
  have N0 := Fr.nil n0
  have pre0 : ∀ t, Steps p.tables e below (s₁.setTop (mkF m 0 #[rv t651, rv t765, .unset] [])) t → Steps p.tables e below (s₁.setTop (entryFrame m #[(.ref t651), (.ref t765)] 3)) t := fun t k => castTop (ef_23 m t651 t765) k
  have K0 : Keep h0 h0 [] := Keep.refl h0 []
  have pre799 : ∀ t, Steps p.tables e below (s₁.setTop (mkF m 1 #[rv t651, rv t765, .unset] [(.ref t651)])) t → Steps p.tables e below (s₁.setTop (entryFrame m #[(.ref t651), (.ref t765)] 3)) t := fun t kt => by
    refine pre0 _ ?_
    show Steps p.tables e below (s₁.setTop (mkF m 0 #[rv t651, rv t765, .unset] [])) _
    refine XS.aloadN X0.here hx rfl (hb hby d25_0) rfl rfl ?_
    exact kt
  obtain ⟨c798, Ar798, -, S798, M798, -, -⟩ := id Fi0
  have pre801 : ∀ t, Steps p.tables e below (s₁.setTop (mkF m 3 #[rv t651, rv t765, .unset] [(.ref t765), (.int (1 : Int32))])) t → Steps p.tables e below (s₁.setTop (entryFrame m #[(.ref t651), (.ref t765)] 3)) t := fun t kt => by
    refine pre799 _ ?_
    show Steps p.tables e below (s₁.setTop (mkF m 1 #[rv t651, rv t765, .unset] [(.ref t651)])) _
    refine X0.arraylength hx (by rw [e0]; exact Ar798.1) (State.isArrayOf_alike hZ.alike Ar798.2.1) (g := (mkF m 1 #[rv t651, rv t765, .unset] [(.ref t651)])) rfl rfl (hb hby d25_1) _ ?_
    rw [len_of S798 M798]
    refine XS.aloadN X0.here hx rfl (hb hby d25_2) rfl rfl ?_
    exact kt
  obtain ⟨c800, Ar800, -, S800, M800, -, -⟩ := id Fi1
  have pre802 : ∀ t, Steps p.tables e below (s₁.setTop (mkF m 35 #[rv t651, rv t765, .unset] [(.int (0 : Int32))])) t → Steps p.tables e below (s₁.setTop (entryFrame m #[(.ref t651), (.ref t765)] 3)) t := fun t kt => by
    refine pre801 _ ?_
    show Steps p.tables e below (s₁.setTop (mkF m 3 #[rv t651, rv t765, .unset] [(.ref t765), (.int (1 : Int32))])) _
    refine X0.arraylength hx (by rw [e0]; exact Ar800.1) (State.isArrayOf_alike hZ.alike Ar800.2.1) (g := (mkF m 3 #[rv t651, rv t765, .unset] [(.ref t765), (.int (1 : Int32))])) rfl rfl (hb hby d25_3) _ ?_
    rw [len_of S800 M800]
    refine XS.icmpYes X0.here hx rfl (pc0 := 4) (pc' := 34) rfl (hb hby d25_4) rfl (XT.ii_ne_t (by decide)) (by decide) (by decide) ?_
    refine XS.iconst X0.here hx rfl (hb hby d25_34) ?_
    exact kt
  obtain ⟨fs, hr, hrun, hended, hW, hsame⟩ := X0.leave (v := some (.int (0 : Int32))) (fun h => by rw [Bd.returns] at h; cases h)
  refine ⟨_, _, pre802 _ (retN X0 hx (t := .boolean) Bd.returns (by simp) (hb hby d25_35) hr), hrun, hended, _, _, rfl, ?_, ⟨_, rfl⟩, hW, hsame.mono (by decide) (by decide)⟩
  show Q_equals25_3 Z t651 t765 c0 k651 d0 d1 k765 h0 n0 _ s₁.heap _
  rw [e0]
  exact ⟨rfl, N0, rfl⟩
def Q_equals25_4 (Z : State) (t805 : Addr) (t807 : Addr) (c0 : Int32) (c1 : Int32) (k805 : ClassId) (d0 : Int32) (k807 : ClassId) (h0 : Heap) (n0 : Nat) (v : Option Value) (h : Heap) (L : List Loc) : Prop := v = some (.int (0 : Int32)) ∧ Fr n0 L ∧ h = h0
set_option maxRecDepth 65536 in
set_option maxHeartbeats 40000000 in
theorem rm_equals25_4 (l : Launch) (Z : State) (a0 : Array Value) (hw : ∀ d ∈ tables_1, d.before a0 Z = true) (ws : List Jvm.Cond) (t805 : Addr) (t807 : Addr) (c0 : Int32) (c1 : Int32) (k805 : ClassId) (d0 : Int32) (k807 : ClassId) (h0 : Heap) (n0 : Nat) (O0 : Old Z n0 h0) (Fi0 : Arv Z h0 t805 k805 .byte (2 : Int32) [(.int c0), (.int c1)] (.int (0 : Int32))) (Fi1 : Arv Z h0 t807 k807 .byte (1 : Int32) [(.int d0)] (.int (0 : Int32))) :
    MetFree l (⟨"java/lang/StringLatin1", "equals", "([B[B)Z"⟩ : MethodName) (head1 (Jvm.Cond.code (⟨"java/lang/StringLatin1", "equals", "([B[B)Z"⟩ : MethodName) jdk_43_method_13_code 3 (some .boolean) :: ws) ({ frames := 0, cells := 0, slots := 0, locals := 0 } : Room)) (fun a U => a = #[(.ref t805), (.ref t807)] ∧ Z.Warmed39 U.vm ∧ U.heap = h0) (fun _ _ _ _ _ => True) (fun _ U o U' => ∃ v L, o = .returned v ∧ Q_equals25_4 Z t805 t807 c0 c1 k805 d0 k807 h0 n0 v U'.heap L ∧ FrameEnd U o U' L ({ frames := 0, cells := 0, slots := 0, locals := 0 } : Room).cells ({ frames := 0, cells := 0, slots := 0, locals := 0 } : Room).slots) := by
  refine MetFree.of_bodySF (plainFor_of_name pn_22) hisR ?_
  intro p e s m args below meth c s₁ Bd hml0 hP hK
  have W := fun {d : Jvm.Cond} (i : Nat) (q : tables_1[i]? = some d) => hw d (List.mem_of_getElem? q)
  obtain ⟨rfl, hZ, hh⟩ := hP
  have hx := Bd.exec
  have hby := Bd.bytes
  have hml : c.maxLocals = 3 := hml0
  have hown : s.vm.findClass "java/lang/StringLatin1" = some m.cls := findClass_of_methodNamed Bd.named
  have hnm := (name_of_methodNamed Bd.named Bd.method).1
  have X0 : Stand p l e ({ frames := 0, cells := 0, slots := 0, locals := 0 } : Room) s m #[(.ref t805), (.ref t807)] below meth c s₁ [] 0 0 := Stand.of_body Bd
  have e0 : s₁.heap = h0 := by rw [← hh, Bd.state]; rfl
  have N0 := Fr.nil n0
  have pre0 : ∀ t, Steps p.tables e below (s₁.setTop (mkF m 0 #[rv t805, rv t807, .unset] [])) t → Steps p.tables e below (s₁.setTop (entryFrame m #[(.ref t805), (.ref t807)] 3)) t := fun t k => castTop (ef_23 m t805 t807) k
  have K0 : Keep h0 h0 [] := Keep.refl h0 []
  have pre841 : ∀ t, Steps p.tables e below (s₁.setTop (mkF m 1 #[rv t805, rv t807, .unset] [(.ref t805)])) t → Steps p.tables e below (s₁.setTop (entryFrame m #[(.ref t805), (.ref t807)] 3)) t := fun t kt => by
    refine pre0 _ ?_
    show Steps p.tables e below (s₁.setTop (mkF m 0 #[rv t805, rv t807, .unset] [])) _
    refine XS.aloadN X0.here hx rfl (hb hby d25_0) rfl rfl ?_
    exact kt
  obtain ⟨c840, Ar840, -, S840, M840, -, -⟩ := id Fi0
  have pre843 : ∀ t, Steps p.tables e below (s₁.setTop (mkF m 3 #[rv t805, rv t807, .unset] [(.ref t807), (.int (2 : Int32))])) t → Steps p.tables e below (s₁.setTop (entryFrame m #[(.ref t805), (.ref t807)] 3)) t := fun t kt => by
    refine pre841 _ ?_
    show Steps p.tables e below (s₁.setTop (mkF m 1 #[rv t805, rv t807, .unset] [(.ref t805)])) _
    refine X0.arraylength hx (by rw [e0]; exact Ar840.1) (State.isArrayOf_alike hZ.alike Ar840.2.1) (g := (mkF m 1 #[rv t805, rv t807, .unset] [(.ref t805)])) rfl rfl (hb hby d25_1) _ ?_
    rw [len_of S840 M840]
    refine XS.aloadN X0.here hx rfl (hb hby d25_2) rfl rfl ?_
    exact kt
  obtain ⟨c842, Ar842, -, S842, M842, -, -⟩ := id Fi1
  have pre844 : ∀ t, Steps p.tables e below (s₁.setTop (mkF m 35 #[rv t805, rv t807, .unset] [(.int (0 : Int32))])) t → Steps p.tables e below (s₁.setTop (entryFrame m #[(.ref t805), (.ref t807)] 3)) t := fun t kt => by
    refine pre843 _ ?_
    show Steps p.tables e below (s₁.setTop (mkF m 3 #[rv t805, rv t807, .unset] [(.ref t807), (.int (2 : Int32))])) _
    refine X0.arraylength hx (by rw [e0]; exact Ar842.1) (State.isArrayOf_alike hZ.alike Ar842.2.1) (g := (mkF m 3 #[rv t805, rv t807, .unset] [(.ref t807), (.int (2 : Int32))])) rfl rfl (hb hby d25_3) _ ?_
    rw [len_of S842 M842]
    refine XS.icmpYes X0.here hx rfl (pc0 := 4) (pc' := 34) rfl (hb hby d25_4) rfl (XT.ii_ne_t (by decide)) (by decide) (by decide) ?_
    refine XS.iconst X0.here hx rfl (hb hby d25_34) ?_
    exact kt
  obtain ⟨fs, hr, hrun, hended, hW, hsame⟩ := X0.leave (v := some (.int (0 : Int32))) (fun h => by rw [Bd.returns] at h; cases h)
  refine ⟨_, _, pre844 _ (retN X0 hx (t := .boolean) Bd.returns (by simp) (hb hby d25_35) hr), hrun, hended, _, _, rfl, ?_, ⟨_, rfl⟩, hW, hsame.mono (by decide) (by decide)⟩
  show Q_equals25_4 Z t805 t807 c0 c1 k805 d0 k807 h0 n0 _ s₁.heap _
  rw [e0]
  exact ⟨rfl, N0, rfl⟩
def Q_equals25_7 (Z : State) (t805 : Addr) (t847 : Addr) (c0 : Int32) (c1 : Int32) (k805 : ClassId) (d0 : Int32) (d1 : Int32) (k847 : ClassId) (h0 : Heap) (n0 : Nat) (v : Option Value) (h : Heap) (L : List Loc) : Prop := v = some (.int (1 : Int32)) ∧ Fr n0 L ∧ h = h0
set_option maxRecDepth 65536 in
set_option maxHeartbeats 40000000 in
theorem rm_equals25_7 (l : Launch) (Z : State) (a0 : Array Value) (hw : ∀ d ∈ tables_1, d.before a0 Z = true) (ws : List Jvm.Cond) (t805 : Addr) (t847 : Addr) (c0 : Int32) (c1 : Int32) (k805 : ClassId) (d0 : Int32) (d1 : Int32) (k847 : ClassId) (h0 : Heap) (n0 : Nat) (O0 : Old Z n0 h0) (Fi0 : Arv Z h0 t805 k805 .byte (2 : Int32) [(.int c0), (.int c1)] (.int (0 : Int32))) (Fi1 : Arv Z h0 t847 k847 .byte (2 : Int32) [(.int d0), (.int d1)] (.int (0 : Int32))) (q0 : d0 = c0) (q1 : d1 = c1) :
    MetFree l (⟨"java/lang/StringLatin1", "equals", "([B[B)Z"⟩ : MethodName) (head1 (Jvm.Cond.code (⟨"java/lang/StringLatin1", "equals", "([B[B)Z"⟩ : MethodName) jdk_43_method_13_code 3 (some .boolean) :: ws) ({ frames := 0, cells := 0, slots := 0, locals := 0 } : Room)) (fun a U => a = #[(.ref t805), (.ref t847)] ∧ Z.Warmed39 U.vm ∧ U.heap = h0) (fun _ _ _ _ _ => True) (fun _ U o U' => ∃ v L, o = .returned v ∧ Q_equals25_7 Z t805 t847 c0 c1 k805 d0 d1 k847 h0 n0 v U'.heap L ∧ FrameEnd U o U' L ({ frames := 0, cells := 0, slots := 0, locals := 0 } : Room).cells ({ frames := 0, cells := 0, slots := 0, locals := 0 } : Room).slots) := by
  refine MetFree.of_bodySF (plainFor_of_name pn_22) hisR ?_
  intro p e s m args below meth c s₁ Bd hml0 hP hK
  have W := fun {d : Jvm.Cond} (i : Nat) (q : tables_1[i]? = some d) => hw d (List.mem_of_getElem? q)
  obtain ⟨rfl, hZ, hh⟩ := hP
  have hx := Bd.exec
  have hby := Bd.bytes
  have hml : c.maxLocals = 3 := hml0
  have hown : s.vm.findClass "java/lang/StringLatin1" = some m.cls := findClass_of_methodNamed Bd.named
  have hnm := (name_of_methodNamed Bd.named Bd.method).1
  have X0 : Stand p l e ({ frames := 0, cells := 0, slots := 0, locals := 0 } : Room) s m #[(.ref t805), (.ref t847)] below meth c s₁ [] 0 0 := Stand.of_body Bd
  have e0 : s₁.heap = h0 := by rw [← hh, Bd.state]; rfl
  have N0 := Fr.nil n0
  have pre0 : ∀ t, Steps p.tables e below (s₁.setTop (mkF m 0 #[rv t805, rv t847, .unset] [])) t → Steps p.tables e below (s₁.setTop (entryFrame m #[(.ref t805), (.ref t847)] 3)) t := fun t k => castTop (ef_23 m t805 t847) k
  have K0 : Keep h0 h0 [] := Keep.refl h0 []
  have pre939 : ∀ t, Steps p.tables e below (s₁.setTop (mkF m 1 #[rv t805, rv t847, .unset] [(.ref t805)])) t → Steps p.tables e below (s₁.setTop (entryFrame m #[(.ref t805), (.ref t847)] 3)) t := fun t kt => by
    refine pre0 _ ?_
    show Steps p.tables e below (s₁.setTop (mkF m 0 #[rv t805, rv t847, .unset] [])) _
    refine XS.aloadN X0.here hx rfl (hb hby d25_0) rfl rfl ?_
    exact kt
  obtain ⟨c938, Ar938, -, S938, M938, -, -⟩ := id Fi0
  have pre941 : ∀ t, Steps p.tables e below (s₁.setTop (mkF m 3 #[rv t805, rv t847, .unset] [(.ref t847), (.int (2 : Int32))])) t → Steps p.tables e below (s₁.setTop (entryFrame m #[(.ref t805), (.ref t847)] 3)) t := fun t kt => by
    refine pre939 _ ?_
    show Steps p.tables e below (s₁.setTop (mkF m 1 #[rv t805, rv t847, .unset] [(.ref t805)])) _
    refine X0.arraylength hx (by rw [e0]; exact Ar938.1) (State.isArrayOf_alike hZ.alike Ar938.2.1) (g := (mkF m 1 #[rv t805, rv t847, .unset] [(.ref t805)])) rfl rfl (hb hby d25_1) _ ?_
    rw [len_of S938 M938]
    refine XS.aloadN X0.here hx rfl (hb hby d25_2) rfl rfl ?_
    exact kt
  obtain ⟨c940, Ar940, -, S940, M940, -, -⟩ := id Fi1
  have pre943 : ∀ t, Steps p.tables e below (s₁.setTop (mkF m 11 #[rv t805, rv t847, iv (0 : Int32)] [(.ref t805), (.int (0 : Int32))])) t → Steps p.tables e below (s₁.setTop (entryFrame m #[(.ref t805), (.ref t847)] 3)) t := fun t kt => by
    refine pre941 _ ?_
    show Steps p.tables e below (s₁.setTop (mkF m 3 #[rv t805, rv t847, .unset] [(.ref t847), (.int (2 : Int32))])) _
    refine X0.arraylength hx (by rw [e0]; exact Ar940.1) (State.isArrayOf_alike hZ.alike Ar940.2.1) (g := (mkF m 3 #[rv t805, rv t847, .unset] [(.ref t847), (.int (2 : Int32))])) rfl rfl (hb hby d25_3) _ ?_
    rw [len_of S940 M940]
    refine XS.icmpNo X0.here hx rfl (hb hby d25_4) rfl (XT.ii_ne_f (by decide)) ?_
    refine XS.iconst X0.here hx rfl (hb hby d25_7) ?_
    refine XS.istoreN X0.here hx rfl (hb hby d25_8) rfl (l' := #[rv t805, rv t847, iv (0 : Int32)]) rfl ?_
    refine XS.iloadN X0.here hx rfl (hb hby d25_9) rfl ?_
    refine XS.aloadN X0.here hx rfl (hb hby d25_10) rfl rfl ?_
    exact kt
  obtain ⟨c942, Ar942, -, S942, M942, -, -⟩ := id Fi0
  have pre945 : ∀ t, Steps p.tables e below (s₁.setTop (mkF m 17 #[rv t805, rv t847, iv (0 : Int32)] [(.int (0 : Int32)), (.ref t805)])) t → Steps p.tables e below (s₁.setTop (entryFrame m #[(.ref t805), (.ref t847)] 3)) t := fun t kt => by
    refine pre943 _ ?_
    show Steps p.tables e below (s₁.setTop (mkF m 11 #[rv t805, rv t847, iv (0 : Int32)] [(.ref t805), (.int (0 : Int32))])) _
    refine X0.arraylength hx (by rw [e0]; exact Ar942.1) (State.isArrayOf_alike hZ.alike Ar942.2.1) (g := (mkF m 11 #[rv t805, rv t847, iv (0 : Int32)] [(.ref t805), (.int (0 : Int32))])) rfl rfl (hb hby d25_11) _ ?_
    rw [len_of S942 M942]
    refine XS.icmpNo X0.here hx rfl (hb hby d25_12) rfl (XT.ii_ge_f (by decide)) ?_
    refine XS.aloadN X0.here hx rfl (hb hby d25_15) rfl rfl ?_
    refine XS.iloadN X0.here hx rfl (hb hby d25_16) rfl ?_
    exact kt
  obtain ⟨c944, Ar944, q944, S944, M944, H944, G944⟩ := id Fi0
  have i944 : ¬ ((0 : Int32) < 0 ∨ c944.slots.size ≤ ((0 : Int32)).toNatClampNeg) := inb_of S944 ⟨by decide, by decide⟩
  have t944 : c944.slots[((0 : Int32)).toNatClampNeg]? = some (.int c0) := Has.at H944 i944 rfl
  have pre947 : ∀ t, Steps p.tables e below (s₁.setTop (mkF m 20 #[rv t805, rv t847, iv (0 : Int32)] [(.int (0 : Int32)), (.ref t847), (.int c0)])) t → Steps p.tables e below (s₁.setTop (entryFrame m #[(.ref t805), (.ref t847)] 3)) t := fun t kt => by
    refine pre945 _ ?_
    show Steps p.tables e below (s₁.setTop (mkF m 17 #[rv t805, rv t847, iv (0 : Int32)] [(.int (0 : Int32)), (.ref t805)])) _
    refine X0.baloadBytes hx (j := (0 : Int32)) (v := (.int c0)) (by rw [e0]; exact Ar944.1) (State.isArrayOf_alike hZ.alike Ar944.2.1) Ar944.2.2 i944 t944 (g := (mkF m 17 #[rv t805, rv t847, iv (0 : Int32)] [(.int (0 : Int32)), (.ref t805)])) rfl rfl (hb hby d25_17) _ ?_
    refine XS.aloadN X0.here hx rfl (hb hby d25_18) rfl rfl ?_
    refine XS.iloadN X0.here hx rfl (hb hby d25_19) rfl ?_
    exact kt
  obtain ⟨c946, Ar946, q946, S946, M946, H946, G946⟩ := id Fi1
  have i946 : ¬ ((0 : Int32) < 0 ∨ c946.slots.size ≤ ((0 : Int32)).toNatClampNeg) := inb_of S946 ⟨by decide, by decide⟩
  have t946 : c946.slots[((0 : Int32)).toNatClampNeg]? = some (.int d0) := Has.at H946 i946 rfl
  have pre949 : ∀ t, Steps p.tables e below (s₁.setTop (mkF m 11 #[rv t805, rv t847, iv (1 : Int32)] [(.ref t805), (.int (1 : Int32))])) t → Steps p.tables e below (s₁.setTop (entryFrame m #[(.ref t805), (.ref t847)] 3)) t := fun t kt => by
    refine pre947 _ ?_
    show Steps p.tables e below (s₁.setTop (mkF m 20 #[rv t805, rv t847, iv (0 : Int32)] [(.int (0 : Int32)), (.ref t847), (.int c0)])) _
    refine X0.baloadBytes hx (j := (0 : Int32)) (v := (.int d0)) (by rw [e0]; exact Ar946.1) (State.isArrayOf_alike hZ.alike Ar946.2.1) Ar946.2.2 i946 t946 (g := (mkF m 20 #[rv t805, rv t847, iv (0 : Int32)] [(.int (0 : Int32)), (.ref t847), (.int c0)])) rfl rfl (hb hby d25_20) _ ?_
    refine XS.icmpYes X0.here hx rfl (pc0 := 21) (pc' := 26) rfl (hb hby d25_21) rfl (XT.ii_eq_t q0.symm) (by decide) (by decide) ?_
    refine XS.iinc X0.here hx rfl (hb hby d25_26) rfl (l' := #[rv t805, rv t847, iv ((0 : Int32) + (1 : Int32))]) rfl ?_
    show  Steps p.tables e below (s₁.setTop (mkF m 29 #[rv t805, rv t847, iv ((0 : Int32) + (1 : Int32))] [])) _
    rw [(by decide : (((0 : Int32) + (1 : Int32)) : Int32) = (1 : Int32))]
    refine XS.goto X0.here hx rfl (pc0 := 29) (pc' := 9) rfl (hb hby d25_29) (by decide) (by decide) ?_
    refine XS.iloadN X0.here hx rfl (hb hby d25_9) rfl ?_
    refine XS.aloadN X0.here hx rfl (hb hby d25_10) rfl rfl ?_
    exact kt
  obtain ⟨c948, Ar948, -, S948, M948, -, -⟩ := id Fi0
  have pre951 : ∀ t, Steps p.tables e below (s₁.setTop (mkF m 17 #[rv t805, rv t847, iv (1 : Int32)] [(.int (1 : Int32)), (.ref t805)])) t → Steps p.tables e below (s₁.setTop (entryFrame m #[(.ref t805), (.ref t847)] 3)) t := fun t kt => by
    refine pre949 _ ?_
    show Steps p.tables e below (s₁.setTop (mkF m 11 #[rv t805, rv t847, iv (1 : Int32)] [(.ref t805), (.int (1 : Int32))])) _
    refine X0.arraylength hx (by rw [e0]; exact Ar948.1) (State.isArrayOf_alike hZ.alike Ar948.2.1) (g := (mkF m 11 #[rv t805, rv t847, iv (1 : Int32)] [(.ref t805), (.int (1 : Int32))])) rfl rfl (hb hby d25_11) _ ?_
    rw [len_of S948 M948]
    refine XS.icmpNo X0.here hx rfl (hb hby d25_12) rfl (XT.ii_ge_f (by decide)) ?_
    refine XS.aloadN X0.here hx rfl (hb hby d25_15) rfl rfl ?_
    refine XS.iloadN X0.here hx rfl (hb hby d25_16) rfl ?_
    exact kt
  obtain ⟨c950, Ar950, q950, S950, M950, H950, G950⟩ := id Fi0
  have i950 : ¬ ((1 : Int32) < 0 ∨ c950.slots.size ≤ ((1 : Int32)).toNatClampNeg) := inb_of S950 ⟨by decide, by decide⟩
  have t950 : c950.slots[((1 : Int32)).toNatClampNeg]? = some (.int c1) := Has.at H950 i950 rfl
  have pre953 : ∀ t, Steps p.tables e below (s₁.setTop (mkF m 20 #[rv t805, rv t847, iv (1 : Int32)] [(.int (1 : Int32)), (.ref t847), (.int c1)])) t → Steps p.tables e below (s₁.setTop (entryFrame m #[(.ref t805), (.ref t847)] 3)) t := fun t kt => by
    refine pre951 _ ?_
    show Steps p.tables e below (s₁.setTop (mkF m 17 #[rv t805, rv t847, iv (1 : Int32)] [(.int (1 : Int32)), (.ref t805)])) _
    refine X0.baloadBytes hx (j := (1 : Int32)) (v := (.int c1)) (by rw [e0]; exact Ar950.1) (State.isArrayOf_alike hZ.alike Ar950.2.1) Ar950.2.2 i950 t950 (g := (mkF m 17 #[rv t805, rv t847, iv (1 : Int32)] [(.int (1 : Int32)), (.ref t805)])) rfl rfl (hb hby d25_17) _ ?_
    refine XS.aloadN X0.here hx rfl (hb hby d25_18) rfl rfl ?_
    refine XS.iloadN X0.here hx rfl (hb hby d25_19) rfl ?_
    exact kt
  obtain ⟨c952, Ar952, q952, S952, M952, H952, G952⟩ := id Fi1
  have i952 : ¬ ((1 : Int32) < 0 ∨ c952.slots.size ≤ ((1 : Int32)).toNatClampNeg) := inb_of S952 ⟨by decide, by decide⟩
  have t952 : c952.slots[((1 : Int32)).toNatClampNeg]? = some (.int d1) := Has.at H952 i952 rfl
  have pre955 : ∀ t, Steps p.tables e below (s₁.setTop (mkF m 11 #[rv t805, rv t847, iv (2 : Int32)] [(.ref t805), (.int (2 : Int32))])) t → Steps p.tables e below (s₁.setTop (entryFrame m #[(.ref t805), (.ref t847)] 3)) t := fun t kt => by
    refine pre953 _ ?_
    show Steps p.tables e below (s₁.setTop (mkF m 20 #[rv t805, rv t847, iv (1 : Int32)] [(.int (1 : Int32)), (.ref t847), (.int c1)])) _
    refine X0.baloadBytes hx (j := (1 : Int32)) (v := (.int d1)) (by rw [e0]; exact Ar952.1) (State.isArrayOf_alike hZ.alike Ar952.2.1) Ar952.2.2 i952 t952 (g := (mkF m 20 #[rv t805, rv t847, iv (1 : Int32)] [(.int (1 : Int32)), (.ref t847), (.int c1)])) rfl rfl (hb hby d25_20) _ ?_
    refine XS.icmpYes X0.here hx rfl (pc0 := 21) (pc' := 26) rfl (hb hby d25_21) rfl (XT.ii_eq_t q1.symm) (by decide) (by decide) ?_
    refine XS.iinc X0.here hx rfl (hb hby d25_26) rfl (l' := #[rv t805, rv t847, iv ((1 : Int32) + (1 : Int32))]) rfl ?_
    show  Steps p.tables e below (s₁.setTop (mkF m 29 #[rv t805, rv t847, iv ((1 : Int32) + (1 : Int32))] [])) _
    rw [(by decide : (((1 : Int32) + (1 : Int32)) : Int32) = (2 : Int32))]
    refine XS.goto X0.here hx rfl (pc0 := 29) (pc' := 9) rfl (hb hby d25_29) (by decide) (by decide) ?_
    refine XS.iloadN X0.here hx rfl (hb hby d25_9) rfl ?_
    refine XS.aloadN X0.here hx rfl (hb hby d25_10) rfl rfl ?_
    exact kt
  obtain ⟨c954, Ar954, -, S954, M954, -, -⟩ := id Fi0
  have pre956 : ∀ t, Steps p.tables e below (s₁.setTop (mkF m 33 #[rv t805, rv t847, iv (2 : Int32)] [(.int (1 : Int32))])) t → Steps p.tables e below (s₁.setTop (entryFrame m #[(.ref t805), (.ref t847)] 3)) t := fun t kt => by
    refine pre955 _ ?_
    show Steps p.tables e below (s₁.setTop (mkF m 11 #[rv t805, rv t847, iv (2 : Int32)] [(.ref t805), (.int (2 : Int32))])) _
    refine X0.arraylength hx (by rw [e0]; exact Ar954.1) (State.isArrayOf_alike hZ.alike Ar954.2.1) (g := (mkF m 11 #[rv t805, rv t847, iv (2 : Int32)] [(.ref t805), (.int (2 : Int32))])) rfl rfl (hb hby d25_11) _ ?_
    rw [len_of S954 M954]
    refine XS.icmpYes X0.here hx rfl (pc0 := 12) (pc' := 32) rfl (hb hby d25_12) rfl (XT.ii_ge_t (by decide)) (by decide) (by decide) ?_
    refine XS.iconst X0.here hx rfl (hb hby d25_32) ?_
    exact kt
  obtain ⟨fs, hr, hrun, hended, hW, hsame⟩ := X0.leave (v := some (.int (1 : Int32))) (fun h => by rw [Bd.returns] at h; cases h)
  refine ⟨_, _, pre956 _ (retN X0 hx (t := .boolean) Bd.returns (by simp) (hb hby d25_33) hr), hrun, hended, _, _, rfl, ?_, ⟨_, rfl⟩, hW, hsame.mono (by decide) (by decide)⟩
  show Q_equals25_7 Z t805 t847 c0 c1 k805 d0 d1 k847 h0 n0 _ s₁.heap _
  rw [e0]
  exact ⟨rfl, N0, rfl⟩
def Q_equals25_8 (Z : State) (t805 : Addr) (t847 : Addr) (c0 : Int32) (c1 : Int32) (k805 : ClassId) (d0 : Int32) (d1 : Int32) (k847 : ClassId) (h0 : Heap) (n0 : Nat) (v : Option Value) (h : Heap) (L : List Loc) : Prop := v = some (.int (0 : Int32)) ∧ Fr n0 L ∧ h = h0
set_option maxRecDepth 65536 in
set_option maxHeartbeats 40000000 in
theorem rm_equals25_8 (l : Launch) (Z : State) (a0 : Array Value) (hw : ∀ d ∈ tables_1, d.before a0 Z = true) (ws : List Jvm.Cond) (t805 : Addr) (t847 : Addr) (c0 : Int32) (c1 : Int32) (k805 : ClassId) (d0 : Int32) (d1 : Int32) (k847 : ClassId) (h0 : Heap) (n0 : Nat) (O0 : Old Z n0 h0) (Fi0 : Arv Z h0 t805 k805 .byte (2 : Int32) [(.int c0), (.int c1)] (.int (0 : Int32))) (Fi1 : Arv Z h0 t847 k847 .byte (2 : Int32) [(.int d0), (.int d1)] (.int (0 : Int32))) (q0 : d0 = c0) (q1 : ¬ (d1 = c1)) :
    MetFree l (⟨"java/lang/StringLatin1", "equals", "([B[B)Z"⟩ : MethodName) (head1 (Jvm.Cond.code (⟨"java/lang/StringLatin1", "equals", "([B[B)Z"⟩ : MethodName) jdk_43_method_13_code 3 (some .boolean) :: ws) ({ frames := 0, cells := 0, slots := 0, locals := 0 } : Room)) (fun a U => a = #[(.ref t805), (.ref t847)] ∧ Z.Warmed39 U.vm ∧ U.heap = h0) (fun _ _ _ _ _ => True) (fun _ U o U' => ∃ v L, o = .returned v ∧ Q_equals25_8 Z t805 t847 c0 c1 k805 d0 d1 k847 h0 n0 v U'.heap L ∧ FrameEnd U o U' L ({ frames := 0, cells := 0, slots := 0, locals := 0 } : Room).cells ({ frames := 0, cells := 0, slots := 0, locals := 0 } : Room).slots) := by
  refine MetFree.of_bodySF (plainFor_of_name pn_22) hisR ?_
  intro p e s m args below meth c s₁ Bd hml0 hP hK
  have W := fun {d : Jvm.Cond} (i : Nat) (q : tables_1[i]? = some d) => hw d (List.mem_of_getElem? q)
  obtain ⟨rfl, hZ, hh⟩ := hP
  have hx := Bd.exec
  have hby := Bd.bytes
  have hml : c.maxLocals = 3 := hml0
  have hown : s.vm.findClass "java/lang/StringLatin1" = some m.cls := findClass_of_methodNamed Bd.named
  have hnm := (name_of_methodNamed Bd.named Bd.method).1
  have X0 : Stand p l e ({ frames := 0, cells := 0, slots := 0, locals := 0 } : Room) s m #[(.ref t805), (.ref t847)] below meth c s₁ [] 0 0 := Stand.of_body Bd
  have e0 : s₁.heap = h0 := by rw [← hh, Bd.state]; rfl
  have N0 := Fr.nil n0
  have pre0 : ∀ t, Steps p.tables e below (s₁.setTop (mkF m 0 #[rv t805, rv t847, .unset] [])) t → Steps p.tables e below (s₁.setTop (entryFrame m #[(.ref t805), (.ref t847)] 3)) t := fun t k => castTop (ef_23 m t805 t847) k
  have K0 : Keep h0 h0 [] := Keep.refl h0 []
  have pre995 : ∀ t, Steps p.tables e below (s₁.setTop (mkF m 1 #[rv t805, rv t847, .unset] [(.ref t805)])) t → Steps p.tables e below (s₁.setTop (entryFrame m #[(.ref t805), (.ref t847)] 3)) t := fun t kt => by
    refine pre0 _ ?_
    show Steps p.tables e below (s₁.setTop (mkF m 0 #[rv t805, rv t847, .unset] [])) _
    refine XS.aloadN X0.here hx rfl (hb hby d25_0) rfl rfl ?_
    exact kt
  obtain ⟨c994, Ar994, -, S994, M994, -, -⟩ := id Fi0
  have pre997 : ∀ t, Steps p.tables e below (s₁.setTop (mkF m 3 #[rv t805, rv t847, .unset] [(.ref t847), (.int (2 : Int32))])) t → Steps p.tables e below (s₁.setTop (entryFrame m #[(.ref t805), (.ref t847)] 3)) t := fun t kt => by
    refine pre995 _ ?_
    show Steps p.tables e below (s₁.setTop (mkF m 1 #[rv t805, rv t847, .unset] [(.ref t805)])) _
    refine X0.arraylength hx (by rw [e0]; exact Ar994.1) (State.isArrayOf_alike hZ.alike Ar994.2.1) (g := (mkF m 1 #[rv t805, rv t847, .unset] [(.ref t805)])) rfl rfl (hb hby d25_1) _ ?_
    rw [len_of S994 M994]
    refine XS.aloadN X0.here hx rfl (hb hby d25_2) rfl rfl ?_
    exact kt
  obtain ⟨c996, Ar996, -, S996, M996, -, -⟩ := id Fi1
  have pre999 : ∀ t, Steps p.tables e below (s₁.setTop (mkF m 11 #[rv t805, rv t847, iv (0 : Int32)] [(.ref t805), (.int (0 : Int32))])) t → Steps p.tables e below (s₁.setTop (entryFrame m #[(.ref t805), (.ref t847)] 3)) t := fun t kt => by
    refine pre997 _ ?_
    show Steps p.tables e below (s₁.setTop (mkF m 3 #[rv t805, rv t847, .unset] [(.ref t847), (.int (2 : Int32))])) _
    refine X0.arraylength hx (by rw [e0]; exact Ar996.1) (State.isArrayOf_alike hZ.alike Ar996.2.1) (g := (mkF m 3 #[rv t805, rv t847, .unset] [(.ref t847), (.int (2 : Int32))])) rfl rfl (hb hby d25_3) _ ?_
    rw [len_of S996 M996]
    refine XS.icmpNo X0.here hx rfl (hb hby d25_4) rfl (XT.ii_ne_f (by decide)) ?_
    refine XS.iconst X0.here hx rfl (hb hby d25_7) ?_
    refine XS.istoreN X0.here hx rfl (hb hby d25_8) rfl (l' := #[rv t805, rv t847, iv (0 : Int32)]) rfl ?_
    refine XS.iloadN X0.here hx rfl (hb hby d25_9) rfl ?_
    refine XS.aloadN X0.here hx rfl (hb hby d25_10) rfl rfl ?_
    exact kt
  obtain ⟨c998, Ar998, -, S998, M998, -, -⟩ := id Fi0
  have pre1001 : ∀ t, Steps p.tables e below (s₁.setTop (mkF m 17 #[rv t805, rv t847, iv (0 : Int32)] [(.int (0 : Int32)), (.ref t805)])) t → Steps p.tables e below (s₁.setTop (entryFrame m #[(.ref t805), (.ref t847)] 3)) t := fun t kt => by
    refine pre999 _ ?_
    show Steps p.tables e below (s₁.setTop (mkF m 11 #[rv t805, rv t847, iv (0 : Int32)] [(.ref t805), (.int (0 : Int32))])) _
    refine X0.arraylength hx (by rw [e0]; exact Ar998.1) (State.isArrayOf_alike hZ.alike Ar998.2.1) (g := (mkF m 11 #[rv t805, rv t847, iv (0 : Int32)] [(.ref t805), (.int (0 : Int32))])) rfl rfl (hb hby d25_11) _ ?_
    rw [len_of S998 M998]
    refine XS.icmpNo X0.here hx rfl (hb hby d25_12) rfl (XT.ii_ge_f (by decide)) ?_
    refine XS.aloadN X0.here hx rfl (hb hby d25_15) rfl rfl ?_
    refine XS.iloadN X0.here hx rfl (hb hby d25_16) rfl ?_
    exact kt
  obtain ⟨c1000, Ar1000, q1000, S1000, M1000, H1000, G1000⟩ := id Fi0
  have i1000 : ¬ ((0 : Int32) < 0 ∨ c1000.slots.size ≤ ((0 : Int32)).toNatClampNeg) := inb_of S1000 ⟨by decide, by decide⟩
  have t1000 : c1000.slots[((0 : Int32)).toNatClampNeg]? = some (.int c0) := Has.at H1000 i1000 rfl
  have pre1003 : ∀ t, Steps p.tables e below (s₁.setTop (mkF m 20 #[rv t805, rv t847, iv (0 : Int32)] [(.int (0 : Int32)), (.ref t847), (.int c0)])) t → Steps p.tables e below (s₁.setTop (entryFrame m #[(.ref t805), (.ref t847)] 3)) t := fun t kt => by
    refine pre1001 _ ?_
    show Steps p.tables e below (s₁.setTop (mkF m 17 #[rv t805, rv t847, iv (0 : Int32)] [(.int (0 : Int32)), (.ref t805)])) _
    refine X0.baloadBytes hx (j := (0 : Int32)) (v := (.int c0)) (by rw [e0]; exact Ar1000.1) (State.isArrayOf_alike hZ.alike Ar1000.2.1) Ar1000.2.2 i1000 t1000 (g := (mkF m 17 #[rv t805, rv t847, iv (0 : Int32)] [(.int (0 : Int32)), (.ref t805)])) rfl rfl (hb hby d25_17) _ ?_
    refine XS.aloadN X0.here hx rfl (hb hby d25_18) rfl rfl ?_
    refine XS.iloadN X0.here hx rfl (hb hby d25_19) rfl ?_
    exact kt
  obtain ⟨c1002, Ar1002, q1002, S1002, M1002, H1002, G1002⟩ := id Fi1
  have i1002 : ¬ ((0 : Int32) < 0 ∨ c1002.slots.size ≤ ((0 : Int32)).toNatClampNeg) := inb_of S1002 ⟨by decide, by decide⟩
  have t1002 : c1002.slots[((0 : Int32)).toNatClampNeg]? = some (.int d0) := Has.at H1002 i1002 rfl
  have pre1005 : ∀ t, Steps p.tables e below (s₁.setTop (mkF m 11 #[rv t805, rv t847, iv (1 : Int32)] [(.ref t805), (.int (1 : Int32))])) t → Steps p.tables e below (s₁.setTop (entryFrame m #[(.ref t805), (.ref t847)] 3)) t := fun t kt => by
    refine pre1003 _ ?_
    show Steps p.tables e below (s₁.setTop (mkF m 20 #[rv t805, rv t847, iv (0 : Int32)] [(.int (0 : Int32)), (.ref t847), (.int c0)])) _
    refine X0.baloadBytes hx (j := (0 : Int32)) (v := (.int d0)) (by rw [e0]; exact Ar1002.1) (State.isArrayOf_alike hZ.alike Ar1002.2.1) Ar1002.2.2 i1002 t1002 (g := (mkF m 20 #[rv t805, rv t847, iv (0 : Int32)] [(.int (0 : Int32)), (.ref t847), (.int c0)])) rfl rfl (hb hby d25_20) _ ?_
    refine XS.icmpYes X0.here hx rfl (pc0 := 21) (pc' := 26) rfl (hb hby d25_21) rfl (XT.ii_eq_t q0.symm) (by decide) (by decide) ?_
    refine XS.iinc X0.here hx rfl (hb hby d25_26) rfl (l' := #[rv t805, rv t847, iv ((0 : Int32) + (1 : Int32))]) rfl ?_
    show  Steps p.tables e below (s₁.setTop (mkF m 29 #[rv t805, rv t847, iv ((0 : Int32) + (1 : Int32))] [])) _
    rw [(by decide : (((0 : Int32) + (1 : Int32)) : Int32) = (1 : Int32))]
    refine XS.goto X0.here hx rfl (pc0 := 29) (pc' := 9) rfl (hb hby d25_29) (by decide) (by decide) ?_
    refine XS.iloadN X0.here hx rfl (hb hby d25_9) rfl ?_
    refine XS.aloadN X0.here hx rfl (hb hby d25_10) rfl rfl ?_
    exact kt
  obtain ⟨c1004, Ar1004, -, S1004, M1004, -, -⟩ := id Fi0
  have pre1007 : ∀ t, Steps p.tables e below (s₁.setTop (mkF m 17 #[rv t805, rv t847, iv (1 : Int32)] [(.int (1 : Int32)), (.ref t805)])) t → Steps p.tables e below (s₁.setTop (entryFrame m #[(.ref t805), (.ref t847)] 3)) t := fun t kt => by
    refine pre1005 _ ?_
    show Steps p.tables e below (s₁.setTop (mkF m 11 #[rv t805, rv t847, iv (1 : Int32)] [(.ref t805), (.int (1 : Int32))])) _
    refine X0.arraylength hx (by rw [e0]; exact Ar1004.1) (State.isArrayOf_alike hZ.alike Ar1004.2.1) (g := (mkF m 11 #[rv t805, rv t847, iv (1 : Int32)] [(.ref t805), (.int (1 : Int32))])) rfl rfl (hb hby d25_11) _ ?_
    rw [len_of S1004 M1004]
    refine XS.icmpNo X0.here hx rfl (hb hby d25_12) rfl (XT.ii_ge_f (by decide)) ?_
    refine XS.aloadN X0.here hx rfl (hb hby d25_15) rfl rfl ?_
    refine XS.iloadN X0.here hx rfl (hb hby d25_16) rfl ?_
    exact kt
  obtain ⟨c1006, Ar1006, q1006, S1006, M1006, H1006, G1006⟩ := id Fi0
  have i1006 : ¬ ((1 : Int32) < 0 ∨ c1006.slots.size ≤ ((1 : Int32)).toNatClampNeg) := inb_of S1006 ⟨by decide, by decide⟩
  have t1006 : c1006.slots[((1 : Int32)).toNatClampNeg]? = some (.int c1) := Has.at H1006 i1006 rfl
  have pre1009 : ∀ t, Steps p.tables e below (s₁.setTop (mkF m 20 #[rv t805, rv t847, iv (1 : Int32)] [(.int (1 : Int32)), (.ref t847), (.int c1)])) t → Steps p.tables e below (s₁.setTop (entryFrame m #[(.ref t805), (.ref t847)] 3)) t := fun t kt => by
    refine pre1007 _ ?_
    show Steps p.tables e below (s₁.setTop (mkF m 17 #[rv t805, rv t847, iv (1 : Int32)] [(.int (1 : Int32)), (.ref t805)])) _
    refine X0.baloadBytes hx (j := (1 : Int32)) (v := (.int c1)) (by rw [e0]; exact Ar1006.1) (State.isArrayOf_alike hZ.alike Ar1006.2.1) Ar1006.2.2 i1006 t1006 (g := (mkF m 17 #[rv t805, rv t847, iv (1 : Int32)] [(.int (1 : Int32)), (.ref t805)])) rfl rfl (hb hby d25_17) _ ?_
    refine XS.aloadN X0.here hx rfl (hb hby d25_18) rfl rfl ?_
    refine XS.iloadN X0.here hx rfl (hb hby d25_19) rfl ?_
    exact kt
  obtain ⟨c1008, Ar1008, q1008, S1008, M1008, H1008, G1008⟩ := id Fi1
  have i1008 : ¬ ((1 : Int32) < 0 ∨ c1008.slots.size ≤ ((1 : Int32)).toNatClampNeg) := inb_of S1008 ⟨by decide, by decide⟩
  have t1008 : c1008.slots[((1 : Int32)).toNatClampNeg]? = some (.int d1) := Has.at H1008 i1008 rfl
  have pre1010 : ∀ t, Steps p.tables e below (s₁.setTop (mkF m 25 #[rv t805, rv t847, iv (1 : Int32)] [(.int (0 : Int32))])) t → Steps p.tables e below (s₁.setTop (entryFrame m #[(.ref t805), (.ref t847)] 3)) t := fun t kt => by
    refine pre1009 _ ?_
    show Steps p.tables e below (s₁.setTop (mkF m 20 #[rv t805, rv t847, iv (1 : Int32)] [(.int (1 : Int32)), (.ref t847), (.int c1)])) _
    refine X0.baloadBytes hx (j := (1 : Int32)) (v := (.int d1)) (by rw [e0]; exact Ar1008.1) (State.isArrayOf_alike hZ.alike Ar1008.2.1) Ar1008.2.2 i1008 t1008 (g := (mkF m 20 #[rv t805, rv t847, iv (1 : Int32)] [(.int (1 : Int32)), (.ref t847), (.int c1)])) rfl rfl (hb hby d25_20) _ ?_
    refine XS.icmpNo X0.here hx rfl (hb hby d25_21) rfl (XT.ii_eq_f (fun q => q1 q.symm)) ?_
    refine XS.iconst X0.here hx rfl (hb hby d25_24) ?_
    exact kt
  obtain ⟨fs, hr, hrun, hended, hW, hsame⟩ := X0.leave (v := some (.int (0 : Int32))) (fun h => by rw [Bd.returns] at h; cases h)
  refine ⟨_, _, pre1010 _ (retN X0 hx (t := .boolean) Bd.returns (by simp) (hb hby d25_25) hr), hrun, hended, _, _, rfl, ?_, ⟨_, rfl⟩, hW, hsame.mono (by decide) (by decide)⟩
  show Q_equals25_8 Z t805 t847 c0 c1 k805 d0 d1 k847 h0 n0 _ s₁.heap _
  rw [e0]
  exact ⟨rfl, N0, rfl⟩
def Q_equals25_9 (Z : State) (t805 : Addr) (t847 : Addr) (c0 : Int32) (c1 : Int32) (k805 : ClassId) (d0 : Int32) (d1 : Int32) (k847 : ClassId) (h0 : Heap) (n0 : Nat) (v : Option Value) (h : Heap) (L : List Loc) : Prop := v = some (.int (0 : Int32)) ∧ Fr n0 L ∧ h = h0
set_option maxRecDepth 65536 in
set_option maxHeartbeats 40000000 in
theorem rm_equals25_9 (l : Launch) (Z : State) (a0 : Array Value) (hw : ∀ d ∈ tables_1, d.before a0 Z = true) (ws : List Jvm.Cond) (t805 : Addr) (t847 : Addr) (c0 : Int32) (c1 : Int32) (k805 : ClassId) (d0 : Int32) (d1 : Int32) (k847 : ClassId) (h0 : Heap) (n0 : Nat) (O0 : Old Z n0 h0) (Fi0 : Arv Z h0 t805 k805 .byte (2 : Int32) [(.int c0), (.int c1)] (.int (0 : Int32))) (Fi1 : Arv Z h0 t847 k847 .byte (2 : Int32) [(.int d0), (.int d1)] (.int (0 : Int32))) (q0 : ¬ (d0 = c0)) :
    MetFree l (⟨"java/lang/StringLatin1", "equals", "([B[B)Z"⟩ : MethodName) (head1 (Jvm.Cond.code (⟨"java/lang/StringLatin1", "equals", "([B[B)Z"⟩ : MethodName) jdk_43_method_13_code 3 (some .boolean) :: ws) ({ frames := 0, cells := 0, slots := 0, locals := 0 } : Room)) (fun a U => a = #[(.ref t805), (.ref t847)] ∧ Z.Warmed39 U.vm ∧ U.heap = h0) (fun _ _ _ _ _ => True) (fun _ U o U' => ∃ v L, o = .returned v ∧ Q_equals25_9 Z t805 t847 c0 c1 k805 d0 d1 k847 h0 n0 v U'.heap L ∧ FrameEnd U o U' L ({ frames := 0, cells := 0, slots := 0, locals := 0 } : Room).cells ({ frames := 0, cells := 0, slots := 0, locals := 0 } : Room).slots) := by
  refine MetFree.of_bodySF (plainFor_of_name pn_22) hisR ?_
  intro p e s m args below meth c s₁ Bd hml0 hP hK
  have W := fun {d : Jvm.Cond} (i : Nat) (q : tables_1[i]? = some d) => hw d (List.mem_of_getElem? q)
  obtain ⟨rfl, hZ, hh⟩ := hP
  have hx := Bd.exec
  have hby := Bd.bytes
  have hml : c.maxLocals = 3 := hml0
  have hown : s.vm.findClass "java/lang/StringLatin1" = some m.cls := findClass_of_methodNamed Bd.named
  have hnm := (name_of_methodNamed Bd.named Bd.method).1
  have X0 : Stand p l e ({ frames := 0, cells := 0, slots := 0, locals := 0 } : Room) s m #[(.ref t805), (.ref t847)] below meth c s₁ [] 0 0 := Stand.of_body Bd
  have e0 : s₁.heap = h0 := by rw [← hh, Bd.state]; rfl
  have N0 := Fr.nil n0
  have pre0 : ∀ t, Steps p.tables e below (s₁.setTop (mkF m 0 #[rv t805, rv t847, .unset] [])) t → Steps p.tables e below (s₁.setTop (entryFrame m #[(.ref t805), (.ref t847)] 3)) t := fun t k => castTop (ef_23 m t805 t847) k
  have K0 : Keep h0 h0 [] := Keep.refl h0 []
  have pre1037 : ∀ t, Steps p.tables e below (s₁.setTop (mkF m 1 #[rv t805, rv t847, .unset] [(.ref t805)])) t → Steps p.tables e below (s₁.setTop (entryFrame m #[(.ref t805), (.ref t847)] 3)) t := fun t kt => by
    refine pre0 _ ?_
    show Steps p.tables e below (s₁.setTop (mkF m 0 #[rv t805, rv t847, .unset] [])) _
    refine XS.aloadN X0.here hx rfl (hb hby d25_0) rfl rfl ?_
    exact kt
  obtain ⟨c1036, Ar1036, -, S1036, M1036, -, -⟩ := id Fi0
  have pre1039 : ∀ t, Steps p.tables e below (s₁.setTop (mkF m 3 #[rv t805, rv t847, .unset] [(.ref t847), (.int (2 : Int32))])) t → Steps p.tables e below (s₁.setTop (entryFrame m #[(.ref t805), (.ref t847)] 3)) t := fun t kt => by
    refine pre1037 _ ?_
    show Steps p.tables e below (s₁.setTop (mkF m 1 #[rv t805, rv t847, .unset] [(.ref t805)])) _
    refine X0.arraylength hx (by rw [e0]; exact Ar1036.1) (State.isArrayOf_alike hZ.alike Ar1036.2.1) (g := (mkF m 1 #[rv t805, rv t847, .unset] [(.ref t805)])) rfl rfl (hb hby d25_1) _ ?_
    rw [len_of S1036 M1036]
    refine XS.aloadN X0.here hx rfl (hb hby d25_2) rfl rfl ?_
    exact kt
  obtain ⟨c1038, Ar1038, -, S1038, M1038, -, -⟩ := id Fi1
  have pre1041 : ∀ t, Steps p.tables e below (s₁.setTop (mkF m 11 #[rv t805, rv t847, iv (0 : Int32)] [(.ref t805), (.int (0 : Int32))])) t → Steps p.tables e below (s₁.setTop (entryFrame m #[(.ref t805), (.ref t847)] 3)) t := fun t kt => by
    refine pre1039 _ ?_
    show Steps p.tables e below (s₁.setTop (mkF m 3 #[rv t805, rv t847, .unset] [(.ref t847), (.int (2 : Int32))])) _
    refine X0.arraylength hx (by rw [e0]; exact Ar1038.1) (State.isArrayOf_alike hZ.alike Ar1038.2.1) (g := (mkF m 3 #[rv t805, rv t847, .unset] [(.ref t847), (.int (2 : Int32))])) rfl rfl (hb hby d25_3) _ ?_
    rw [len_of S1038 M1038]
    refine XS.icmpNo X0.here hx rfl (hb hby d25_4) rfl (XT.ii_ne_f (by decide)) ?_
    refine XS.iconst X0.here hx rfl (hb hby d25_7) ?_
    refine XS.istoreN X0.here hx rfl (hb hby d25_8) rfl (l' := #[rv t805, rv t847, iv (0 : Int32)]) rfl ?_
    refine XS.iloadN X0.here hx rfl (hb hby d25_9) rfl ?_
    refine XS.aloadN X0.here hx rfl (hb hby d25_10) rfl rfl ?_
    exact kt
  obtain ⟨c1040, Ar1040, -, S1040, M1040, -, -⟩ := id Fi0
  have pre1043 : ∀ t, Steps p.tables e below (s₁.setTop (mkF m 17 #[rv t805, rv t847, iv (0 : Int32)] [(.int (0 : Int32)), (.ref t805)])) t → Steps p.tables e below (s₁.setTop (entryFrame m #[(.ref t805), (.ref t847)] 3)) t := fun t kt => by
    refine pre1041 _ ?_
    show Steps p.tables e below (s₁.setTop (mkF m 11 #[rv t805, rv t847, iv (0 : Int32)] [(.ref t805), (.int (0 : Int32))])) _
    refine X0.arraylength hx (by rw [e0]; exact Ar1040.1) (State.isArrayOf_alike hZ.alike Ar1040.2.1) (g := (mkF m 11 #[rv t805, rv t847, iv (0 : Int32)] [(.ref t805), (.int (0 : Int32))])) rfl rfl (hb hby d25_11) _ ?_
    rw [len_of S1040 M1040]
    refine XS.icmpNo X0.here hx rfl (hb hby d25_12) rfl (XT.ii_ge_f (by decide)) ?_
    refine XS.aloadN X0.here hx rfl (hb hby d25_15) rfl rfl ?_
    refine XS.iloadN X0.here hx rfl (hb hby d25_16) rfl ?_
    exact kt
  obtain ⟨c1042, Ar1042, q1042, S1042, M1042, H1042, G1042⟩ := id Fi0
  have i1042 : ¬ ((0 : Int32) < 0 ∨ c1042.slots.size ≤ ((0 : Int32)).toNatClampNeg) := inb_of S1042 ⟨by decide, by decide⟩
  have t1042 : c1042.slots[((0 : Int32)).toNatClampNeg]? = some (.int c0) := Has.at H1042 i1042 rfl
  have pre1045 : ∀ t, Steps p.tables e below (s₁.setTop (mkF m 20 #[rv t805, rv t847, iv (0 : Int32)] [(.int (0 : Int32)), (.ref t847), (.int c0)])) t → Steps p.tables e below (s₁.setTop (entryFrame m #[(.ref t805), (.ref t847)] 3)) t := fun t kt => by
    refine pre1043 _ ?_
    show Steps p.tables e below (s₁.setTop (mkF m 17 #[rv t805, rv t847, iv (0 : Int32)] [(.int (0 : Int32)), (.ref t805)])) _
    refine X0.baloadBytes hx (j := (0 : Int32)) (v := (.int c0)) (by rw [e0]; exact Ar1042.1) (State.isArrayOf_alike hZ.alike Ar1042.2.1) Ar1042.2.2 i1042 t1042 (g := (mkF m 17 #[rv t805, rv t847, iv (0 : Int32)] [(.int (0 : Int32)), (.ref t805)])) rfl rfl (hb hby d25_17) _ ?_
    refine XS.aloadN X0.here hx rfl (hb hby d25_18) rfl rfl ?_
    refine XS.iloadN X0.here hx rfl (hb hby d25_19) rfl ?_
    exact kt
  obtain ⟨c1044, Ar1044, q1044, S1044, M1044, H1044, G1044⟩ := id Fi1
  have i1044 : ¬ ((0 : Int32) < 0 ∨ c1044.slots.size ≤ ((0 : Int32)).toNatClampNeg) := inb_of S1044 ⟨by decide, by decide⟩
  have t1044 : c1044.slots[((0 : Int32)).toNatClampNeg]? = some (.int d0) := Has.at H1044 i1044 rfl
  have pre1046 : ∀ t, Steps p.tables e below (s₁.setTop (mkF m 25 #[rv t805, rv t847, iv (0 : Int32)] [(.int (0 : Int32))])) t → Steps p.tables e below (s₁.setTop (entryFrame m #[(.ref t805), (.ref t847)] 3)) t := fun t kt => by
    refine pre1045 _ ?_
    show Steps p.tables e below (s₁.setTop (mkF m 20 #[rv t805, rv t847, iv (0 : Int32)] [(.int (0 : Int32)), (.ref t847), (.int c0)])) _
    refine X0.baloadBytes hx (j := (0 : Int32)) (v := (.int d0)) (by rw [e0]; exact Ar1044.1) (State.isArrayOf_alike hZ.alike Ar1044.2.1) Ar1044.2.2 i1044 t1044 (g := (mkF m 20 #[rv t805, rv t847, iv (0 : Int32)] [(.int (0 : Int32)), (.ref t847), (.int c0)])) rfl rfl (hb hby d25_20) _ ?_
    refine XS.icmpNo X0.here hx rfl (hb hby d25_21) rfl (XT.ii_eq_f (fun q => q0 q.symm)) ?_
    refine XS.iconst X0.here hx rfl (hb hby d25_24) ?_
    exact kt
  obtain ⟨fs, hr, hrun, hended, hW, hsame⟩ := X0.leave (v := some (.int (0 : Int32))) (fun h => by rw [Bd.returns] at h; cases h)
  refine ⟨_, _, pre1046 _ (retN X0 hx (t := .boolean) Bd.returns (by simp) (hb hby d25_25) hr), hrun, hended, _, _, rfl, ?_, ⟨_, rfl⟩, hW, hsame.mono (by decide) (by decide)⟩
  show Q_equals25_9 Z t805 t847 c0 c1 k805 d0 d1 k847 h0 n0 _ s₁.heap _
  rw [e0]
  exact ⟨rfl, N0, rfl⟩
def Q_equals (Z : State) (so : Addr) (se : Addr) (cz : Int32) (b1 : Int32) (c0 : Int32) (c1 : Int32) (b2 : Int32) (d0 : Int32) (d1 : Int32) (h0 : Heap) (n0 : Nat) (v : Option Value) (h : Heap) (L : List Loc) : Prop := v = some (.int (own_eqv (own_cs b1 c0 c1) (own_cs b2 d0 d1))) ∧ Fr n0 L ∧ h = h0
set_option maxRecDepth 65536 in
set_option maxHeartbeats 40000000 in
theorem rm_equals (l : Launch) (Z : State) (a0 : Array Value) (hw : ∀ d ∈ tables_1, d.before a0 Z = true) (ws : List Jvm.Cond) (so : Addr) (se : Addr) (cz : Int32) (b1 : Int32) (c0 : Int32) (c1 : Int32) (b2 : Int32) (d0 : Int32) (d1 : Int32) (h0 : Heap) (n0 : Nat) (O0 : Old Z n0 h0) (G0 : Sta Z Z.heap "java/lang/String" "COMPACT_STRINGS" "Z" (.int cz)) (Fi0 : own_str Z h0 so b1 c0 c1) (Fi1 : own_str Z h0 se b2 d0 d1) (qz : ¬ (cz = (0 : Int32))) (qn : ¬ (so = se)) :
    MetFree l (⟨"java/lang/String", "equals", "(Ljava/lang/Object;)Z"⟩ : MethodName) (head1 (Jvm.Cond.code (⟨"java/lang/String", "equals", "(Ljava/lang/Object;)Z"⟩ : MethodName) jdk_42_method_66_code 3 (some .boolean) :: ws) ({ frames := 1, cells := 0, slots := 0, locals := 14 } : Room)) (fun a U => a = #[(.ref so), (.ref se)] ∧ Z.Warmed39 U.vm ∧ U.heap = h0) (fun _ _ _ _ _ => True) (fun _ U o U' => ∃ v L, o = .returned v ∧ Q_equals Z so se cz b1 c0 c1 b2 d0 d1 h0 n0 v U'.heap L ∧ FrameEnd U o U' L ({ frames := 1, cells := 0, slots := 0, locals := 14 } : Room).cells ({ frames := 1, cells := 0, slots := 0, locals := 14 } : Room).slots) := by
  refine MetFree.of_bodySF (plainFor_of_name pn_13) hisR ?_
  intro p e s m args below meth c s₁ Bd hml0 hP hK
  have W := fun {d : Jvm.Cond} (i : Nat) (q : tables_1[i]? = some d) => hw d (List.mem_of_getElem? q)
  obtain ⟨rfl, hZ, hh⟩ := hP
  have hx := Bd.exec
  have hby := Bd.bytes
  have hml : c.maxLocals = 3 := hml0
  have hown : s.vm.findClass "java/lang/String" = some m.cls := findClass_of_methodNamed Bd.named
  have hnm := (name_of_methodNamed Bd.named Bd.method).1
  have X0 : Stand p l e ({ frames := 1, cells := 0, slots := 0, locals := 14 } : Room) s m #[(.ref so), (.ref se)] below meth c s₁ [] 0 0 := Stand.of_body Bd
  have e0 : s₁.heap = h0 := by rw [← hh, Bd.state]; rfl
  have N0 := Fr.nil n0
  have pre0 : ∀ t, Steps p.tables e below (s₁.setTop (mkF m 0 #[rv so, rv se, .unset] [])) t → Steps p.tables e below (s₁.setTop (entryFrame m #[(.ref so), (.ref se)] 3)) t := fun t k => castTop (ef_21 m so se) k
  have K0 : Keep h0 h0 [] := Keep.refl h0 []
  by_cases hb650 : b1 = (0 : Int32)
  · obtain ⟨t651, k651, E651, C651, V651, A651⟩ := own_str_one Fi0 hb650
    by_cases hb652 : b2 = (0 : Int32)
    · obtain ⟨t653, k653, E653, C653, V653, A653⟩ := own_str_one Fi1 hb652
      have pre654 : ∀ t, Steps p.tables e below (s₁.setTop (mkF m 8 #[rv so, rv se, .unset] [(.ref se)])) t → Steps p.tables e below (s₁.setTop (entryFrame m #[(.ref so), (.ref se)] 3)) t := fun t kt => by
        refine pre0 _ ?_
        show Steps p.tables e below (s₁.setTop (mkF m 0 #[rv so, rv se, .unset] [])) _
        refine XS.aloadN X0.here hx rfl (hb hby d24_0) rfl rfl ?_
        refine XS.aloadN X0.here hx rfl (hb hby d24_1) rfl rfl ?_
        refine Jvm.RoadKit.acmp (g := (mkF m 2 #[rv so, rv se, .unset] [(.ref se), (.ref so)])) X0 hx rfl rfl rfl (pc0 := 2) (pc' := 7) (same := false) rfl (hb hby d24_2) rfl (decide_eq_false fun q => qn (Value.ref.inj q)) (by decide) (by decide) ?_
        refine XS.aloadN X0.here hx rfl (hb hby d24_7) rfl rfl ?_
        exact kt
      obtain ⟨T655, X655, e655, st655⟩ := instY X0 hx hZ hown (W 134 rfl) e0 (Ins.self E653) (g := (mkF m 8 #[rv so, rv se, .unset] [(.ref se)])) rfl rfl (hb hby d24_8)
      have pre656 : ∀ t, Steps p.tables e below (T655.setTop (mkF m 11 #[rv so, rv se, .unset] [(.int (1 : Int32))])) t → Steps p.tables e below (s₁.setTop (entryFrame m #[(.ref so), (.ref se)] 3)) t := fun t kt => pre654 _ (st655 _ kt)
      have pre657 : ∀ t, Steps p.tables e below (T655.setTop (mkF m 15 #[rv so, rv se, .unset] [(.ref se)])) t → Steps p.tables e below (s₁.setTop (entryFrame m #[(.ref so), (.ref se)] 3)) t := fun t kt => by
        refine pre656 _ ?_
        show Steps p.tables e below (T655.setTop (mkF m 11 #[rv so, rv se, .unset] [(.int (1 : Int32))])) _
        refine XS.ifNo X655.here hx rfl (hb hby d24_11) rfl (XT.i0_eq_f (by decide)) ?_
        refine XS.aloadN X655.here hx rfl (hb hby d24_14) rfl rfl ?_
        exact kt
      obtain ⟨T658, X658, e658, st658⟩ := castY X655 hx hZ hown (W 134 rfl) e655 (Ins.self E653) (g := (mkF m 15 #[rv so, rv se, .unset] [(.ref se)])) rfl rfl (hb hby d24_15)
      have pre659 : ∀ t, Steps p.tables e below (T658.setTop (mkF m 18 #[rv so, rv se, .unset] [(.ref se)])) t → Steps p.tables e below (s₁.setTop (entryFrame m #[(.ref so), (.ref se)] 3)) t := fun t kt => pre657 _ (st658 _ kt)
      have pre660 : ∀ t, Steps p.tables e below (T658.setTop (mkF m 19 #[rv so, rv se, rv se] [])) t → Steps p.tables e below (s₁.setTop (entryFrame m #[(.ref so), (.ref se)] 3)) t := fun t kt => by
        refine pre659 _ ?_
        show Steps p.tables e below (T658.setTop (mkF m 18 #[rv so, rv se, .unset] [(.ref se)])) _
        refine XS.astoreN X658.here hx rfl (hb hby d24_18) rfl rfl (l' := #[rv so, rv se, rv se]) rfl ?_
        exact kt
      obtain ⟨T661, X661, e661, st661⟩ := getS2 X658 hx hZ hown (host := "") (Or.inl (W 21 rfl)) Via.refl e658 (G0.ext O0.2) (g := (mkF m 19 #[rv so, rv se, rv se] [])) rfl (hb hby d24_19)
      have pre662 : ∀ t, Steps p.tables e below (T661.setTop (mkF m 22 #[rv so, rv se, rv se] [(.int cz)])) t → Steps p.tables e below (s₁.setTop (entryFrame m #[(.ref so), (.ref se)] 3)) t := fun t kt => pre660 _ (st661 _ kt)
      have pre663 : ∀ t, Steps p.tables e below (T661.setTop (mkF m 26 #[rv so, rv se, rv se] [(.ref so)])) t → Steps p.tables e below (s₁.setTop (entryFrame m #[(.ref so), (.ref se)] 3)) t := fun t kt => by
        refine pre662 _ ?_
        show Steps p.tables e below (T661.setTop (mkF m 22 #[rv so, rv se, rv se] [(.int cz)])) _
        refine XS.ifNo X661.here hx rfl (hb hby d24_22) rfl (XT.i0_eq_f qz) ?_
        refine XS.aloadN X661.here hx rfl (hb hby d24_25) rfl rfl ?_
        exact kt
      obtain ⟨T664, X664, e664, st664⟩ := getF X661 hx hZ hown (host := "") (Or.inl (W 33 rfl)) Via.refl e661 C651 (g := (mkF m 26 #[rv so, rv se, rv se] [(.ref so)])) rfl rfl (hb hby d24_26)
      have pre665 : ∀ t, Steps p.tables e below (T664.setTop (mkF m 29 #[rv so, rv se, rv se] [(.int (0 : Int32))])) t → Steps p.tables e below (s₁.setTop (entryFrame m #[(.ref so), (.ref se)] 3)) t := fun t kt => pre663 _ (st664 _ kt)
      have pre666 : ∀ t, Steps p.tables e below (T664.setTop (mkF m 30 #[rv so, rv se, rv se] [(.ref se), (.int (0 : Int32))])) t → Steps p.tables e below (s₁.setTop (entryFrame m #[(.ref so), (.ref se)] 3)) t := fun t kt => by
        refine pre665 _ ?_
        show Steps p.tables e below (T664.setTop (mkF m 29 #[rv so, rv se, rv se] [(.int (0 : Int32))])) _
        refine XS.aloadN X664.here hx rfl (hb hby d24_29) rfl rfl ?_
        exact kt
      obtain ⟨T667, X667, e667, st667⟩ := getF X664 hx hZ hown (host := "") (Or.inl (W 33 rfl)) Via.refl e664 C653 (g := (mkF m 30 #[rv so, rv se, rv se] [(.ref se), (.int (0 : Int32))])) rfl rfl (hb hby d24_30)
      have pre668 : ∀ t, Steps p.tables e below (T667.setTop (mkF m 33 #[rv so, rv se, rv se] [(.int (0 : Int32)), (.int (0 : Int32))])) t → Steps p.tables e below (s₁.setTop (entryFrame m #[(.ref so), (.ref se)] 3)) t := fun t kt => pre666 _ (st667 _ kt)
      have pre669 : ∀ t, Steps p.tables e below (T667.setTop (mkF m 37 #[rv so, rv se, rv se] [(.ref so)])) t → Steps p.tables e below (s₁.setTop (entryFrame m #[(.ref so), (.ref se)] 3)) t := fun t kt => by
        refine pre668 _ ?_
        show Steps p.tables e below (T667.setTop (mkF m 33 #[rv so, rv se, rv se] [(.int (0 : Int32)), (.int (0 : Int32))])) _
        refine XS.icmpNo X667.here hx rfl (hb hby d24_33) rfl (XT.ii_ne_f (by decide)) ?_
        refine XS.aloadN X667.here hx rfl (hb hby d24_36) rfl rfl ?_
        exact kt
      obtain ⟨T670, X670, e670, st670⟩ := getF X667 hx hZ hown (host := "") (Or.inl (W 35 rfl)) Via.refl e667 V651 (g := (mkF m 37 #[rv so, rv se, rv se] [(.ref so)])) rfl rfl (hb hby d24_37)
      have pre671 : ∀ t, Steps p.tables e below (T670.setTop (mkF m 40 #[rv so, rv se, rv se] [(.ref t651)])) t → Steps p.tables e below (s₁.setTop (entryFrame m #[(.ref so), (.ref se)] 3)) t := fun t kt => pre669 _ (st670 _ kt)
      have pre672 : ∀ t, Steps p.tables e below (T670.setTop (mkF m 41 #[rv so, rv se, rv se] [(.ref se), (.ref t651)])) t → Steps p.tables e below (s₁.setTop (entryFrame m #[(.ref so), (.ref se)] 3)) t := fun t kt => by
        refine pre671 _ ?_
        show Steps p.tables e below (T670.setTop (mkF m 40 #[rv so, rv se, rv se] [(.ref t651)])) _
        refine XS.aloadN X670.here hx rfl (hb hby d24_40) rfl rfl ?_
        exact kt
      obtain ⟨T673, X673, e673, st673⟩ := getF X670 hx hZ hown (host := "") (Or.inl (W 35 rfl)) Via.refl e670 V653 (g := (mkF m 41 #[rv so, rv se, rv se] [(.ref se), (.ref t651)])) rfl rfl (hb hby d24_41)
      have pre674 : ∀ t, Steps p.tables e below (T673.setTop (mkF m 44 #[rv so, rv se, rv se] [(.ref t653), (.ref t651)])) t → Steps p.tables e below (s₁.setTop (entryFrame m #[(.ref so), (.ref se)] 3)) t := fun t kt => pre672 _ (st673 _ kt)
      by_cases hc686 : c0 = d0
      · obtain ⟨_, _, ⟨T687, L687, k687, n687⟩, -, X687, ⟨Lc687, hQ687, l687, y687, z687⟩, st687⟩ := Jvm.LawKit.callS X673 hx (y := (⟨"java/lang/StringLatin1", "equals", "([B[B)Z"⟩ : MethodName)) hown (mvT hZ (W 135 rfl)) (mvT hZ (W 136 rfl)) (mvT hZ (W 137 rfl)) (mvT hZ (W 138 rfl)) (by decide) (backOf (W := 0) (rm_equals25_1 l Z a0 hw [] t651 t653 c0 k651 d0 k653 h0 n0 O0 A651 A653 hc686.symm) hZ (W 138 rfl) (W 137 rfl) (by decide) (by decide)) (g := (mkF m 44 #[rv so, rv se, rv se] [(.ref t653), (.ref t651)])) rfl (by rw [hml]; rfl) (argsL := [(.ref t651), (.ref t653)]) (rest := []) (lenOf pd_24 rfl) rfl (by show 2 * 0 + _ ≤ _; exact Nat.le_of_eq rfl) (hb hby d24_44) (fun _ _ => ⟨rfl, e673, (by decide : 0 + 0 ≤ _), (by decide : 0 + 0 ≤ _)⟩)
        dsimp only [Pt.U, Pt.locs, Pt.cells, Pt.slots] at X687 l687 y687 z687 st687 hQ687
        replace l687 := l687.symm
        replace y687 : 0 = k687 := y687.symm
        replace z687 : 0 = n687 := z687.symm
        subst l687 y687 z687
        obtain ⟨rfl, M687, e687⟩ := hQ687
        have N687 := Fr.app N0 M687
        have pre727 : ∀ t, Steps p.tables e below (T687.setTop (mkF m 47 #[rv so, rv se, rv se] [(.int (1 : Int32))])) t → Steps p.tables e below (s₁.setTop (entryFrame m #[(.ref so), (.ref se)] 3)) t := fun t kt => pre674 _ (st687 _ kt)
        have pre728 : ∀ t, Steps p.tables e below (T687.setTop (mkF m 55 #[rv so, rv se, rv se] [(.int (1 : Int32))])) t → Steps p.tables e below (s₁.setTop (entryFrame m #[(.ref so), (.ref se)] 3)) t := fun t kt => by
          refine pre727 _ ?_
          show Steps p.tables e below (T687.setTop (mkF m 47 #[rv so, rv se, rv se] [(.int (1 : Int32))])) _
          refine XS.ifNo X687.here hx rfl (hb hby d24_47) rfl (XT.i0_eq_f (by decide)) ?_
          refine XS.iconst X687.here hx rfl (hb hby d24_50) ?_
          refine XS.goto X687.here hx rfl (pc0 := 51) (pc' := 55) rfl (hb hby d24_51) (by decide) (by decide) ?_
          exact kt
        -- returns (.int (1 : Int32)), wanted (.int (own_eqv (own_cs b1 c0 c1) (own_cs b2 d0 d1)))
        obtain ⟨fs, hr, hrun, hended, hW, hsame⟩ := X687.leave (v := some (.int (1 : Int32))) (fun h => by rw [Bd.returns] at h; cases h)
        refine ⟨_, _, pre728 _ (retN X687 hx (t := .boolean) Bd.returns (by simp) (hb hby d24_55) hr), hrun, hended, _, _, rfl, ?_, ⟨_, rfl⟩, hW, hsame.mono (by decide) (by decide)⟩
        show Q_equals Z so se cz b1 c0 c1 b2 d0 d1 h0 n0 _ T687.heap _
        rw [e687]
        exact ⟨(congrArg (fun z => some (Value.int z)) (by simp [own_eqv, own_cs, hb650, hb652, hc686])), N687, rfl⟩
      · obtain ⟨_, _, ⟨T729, L729, k729, n729⟩, -, X729, ⟨Lc729, hQ729, l729, y729, z729⟩, st729⟩ := Jvm.LawKit.callS X673 hx (y := (⟨"java/lang/StringLatin1", "equals", "([B[B)Z"⟩ : MethodName)) hown (mvT hZ (W 135 rfl)) (mvT hZ (W 136 rfl)) (mvT hZ (W 137 rfl)) (mvT hZ (W 138 rfl)) (by decide) (backOf (W := 0) (rm_equals25_2 l Z a0 hw [] t651 t653 c0 k651 d0 k653 h0 n0 O0 A651 A653 (fun q => hc686 q.symm)) hZ (W 138 rfl) (W 137 rfl) (by decide) (by decide)) (g := (mkF m 44 #[rv so, rv se, rv se] [(.ref t653), (.ref t651)])) rfl (by rw [hml]; rfl) (argsL := [(.ref t651), (.ref t653)]) (rest := []) (lenOf pd_24 rfl) rfl (by show 2 * 0 + _ ≤ _; exact Nat.le_of_eq rfl) (hb hby d24_44) (fun _ _ => ⟨rfl, e673, (by decide : 0 + 0 ≤ _), (by decide : 0 + 0 ≤ _)⟩)
        dsimp only [Pt.U, Pt.locs, Pt.cells, Pt.slots] at X729 l729 y729 z729 st729 hQ729
        replace l729 := l729.symm
        replace y729 : 0 = k729 := y729.symm
        replace z729 : 0 = n729 := z729.symm
        subst l729 y729 z729
        obtain ⟨rfl, M729, e729⟩ := hQ729
        have N729 := Fr.app N0 M729
        have pre763 : ∀ t, Steps p.tables e below (T729.setTop (mkF m 47 #[rv so, rv se, rv se] [(.int (0 : Int32))])) t → Steps p.tables e below (s₁.setTop (entryFrame m #[(.ref so), (.ref se)] 3)) t := fun t kt => pre674 _ (st729 _ kt)
        have pre764 : ∀ t, Steps p.tables e below (T729.setTop (mkF m 55 #[rv so, rv se, rv se] [(.int (0 : Int32))])) t → Steps p.tables e below (s₁.setTop (entryFrame m #[(.ref so), (.ref se)] 3)) t := fun t kt => by
          refine pre763 _ ?_
          show Steps p.tables e below (T729.setTop (mkF m 47 #[rv so, rv se, rv se] [(.int (0 : Int32))])) _
          refine XS.ifYes X729.here hx rfl (pc0 := 47) (pc' := 54) rfl (hb hby d24_47) rfl (XT.i0_eq_t (by decide)) (by decide) (by decide) ?_
          refine XS.iconst X729.here hx rfl (hb hby d24_54) ?_
          exact kt
        -- returns (.int (0 : Int32)), wanted (.int (own_eqv (own_cs b1 c0 c1) (own_cs b2 d0 d1)))
        obtain ⟨fs, hr, hrun, hended, hW, hsame⟩ := X729.leave (v := some (.int (0 : Int32))) (fun h => by rw [Bd.returns] at h; cases h)
        refine ⟨_, _, pre764 _ (retN X729 hx (t := .boolean) Bd.returns (by simp) (hb hby d24_55) hr), hrun, hended, _, _, rfl, ?_, ⟨_, rfl⟩, hW, hsame.mono (by decide) (by decide)⟩
        show Q_equals Z so se cz b1 c0 c1 b2 d0 d1 h0 n0 _ T729.heap _
        rw [e729]
        exact ⟨(congrArg (fun z => some (Value.int z)) (by simp [own_eqv, own_cs, hb650, hb652, hc686])), N729, rfl⟩
    · obtain ⟨t765, k765, E765, C765, V765, A765⟩ := own_str_two Fi1 hb652
      have pre766 : ∀ t, Steps p.tables e below (s₁.setTop (mkF m 8 #[rv so, rv se, .unset] [(.ref se)])) t → Steps p.tables e below (s₁.setTop (entryFrame m #[(.ref so), (.ref se)] 3)) t := fun t kt => by
        refine pre0 _ ?_
        show Steps p.tables e below (s₁.setTop (mkF m 0 #[rv so, rv se, .unset] [])) _
        refine XS.aloadN X0.here hx rfl (hb hby d24_0) rfl rfl ?_
        refine XS.aloadN X0.here hx rfl (hb hby d24_1) rfl rfl ?_
        refine Jvm.RoadKit.acmp (g := (mkF m 2 #[rv so, rv se, .unset] [(.ref se), (.ref so)])) X0 hx rfl rfl rfl (pc0 := 2) (pc' := 7) (same := false) rfl (hb hby d24_2) rfl (decide_eq_false fun q => qn (Value.ref.inj q)) (by decide) (by decide) ?_
        refine XS.aloadN X0.here hx rfl (hb hby d24_7) rfl rfl ?_
        exact kt
      obtain ⟨T767, X767, e767, st767⟩ := instY X0 hx hZ hown (W 134 rfl) e0 (Ins.self E765) (g := (mkF m 8 #[rv so, rv se, .unset] [(.ref se)])) rfl rfl (hb hby d24_8)
      have pre768 : ∀ t, Steps p.tables e below (T767.setTop (mkF m 11 #[rv so, rv se, .unset] [(.int (1 : Int32))])) t → Steps p.tables e below (s₁.setTop (entryFrame m #[(.ref so), (.ref se)] 3)) t := fun t kt => pre766 _ (st767 _ kt)
      have pre769 : ∀ t, Steps p.tables e below (T767.setTop (mkF m 15 #[rv so, rv se, .unset] [(.ref se)])) t → Steps p.tables e below (s₁.setTop (entryFrame m #[(.ref so), (.ref se)] 3)) t := fun t kt => by
        refine pre768 _ ?_
        show Steps p.tables e below (T767.setTop (mkF m 11 #[rv so, rv se, .unset] [(.int (1 : Int32))])) _
        refine XS.ifNo X767.here hx rfl (hb hby d24_11) rfl (XT.i0_eq_f (by decide)) ?_
        refine XS.aloadN X767.here hx rfl (hb hby d24_14) rfl rfl ?_
        exact kt
      obtain ⟨T770, X770, e770, st770⟩ := castY X767 hx hZ hown (W 134 rfl) e767 (Ins.self E765) (g := (mkF m 15 #[rv so, rv se, .unset] [(.ref se)])) rfl rfl (hb hby d24_15)
      have pre771 : ∀ t, Steps p.tables e below (T770.setTop (mkF m 18 #[rv so, rv se, .unset] [(.ref se)])) t → Steps p.tables e below (s₁.setTop (entryFrame m #[(.ref so), (.ref se)] 3)) t := fun t kt => pre769 _ (st770 _ kt)
      have pre772 : ∀ t, Steps p.tables e below (T770.setTop (mkF m 19 #[rv so, rv se, rv se] [])) t → Steps p.tables e below (s₁.setTop (entryFrame m #[(.ref so), (.ref se)] 3)) t := fun t kt => by
        refine pre771 _ ?_
        show Steps p.tables e below (T770.setTop (mkF m 18 #[rv so, rv se, .unset] [(.ref se)])) _
        refine XS.astoreN X770.here hx rfl (hb hby d24_18) rfl rfl (l' := #[rv so, rv se, rv se]) rfl ?_
        exact kt
      obtain ⟨T773, X773, e773, st773⟩ := getS2 X770 hx hZ hown (host := "") (Or.inl (W 21 rfl)) Via.refl e770 (G0.ext O0.2) (g := (mkF m 19 #[rv so, rv se, rv se] [])) rfl (hb hby d24_19)
      have pre774 : ∀ t, Steps p.tables e below (T773.setTop (mkF m 22 #[rv so, rv se, rv se] [(.int cz)])) t → Steps p.tables e below (s₁.setTop (entryFrame m #[(.ref so), (.ref se)] 3)) t := fun t kt => pre772 _ (st773 _ kt)
      have pre775 : ∀ t, Steps p.tables e below (T773.setTop (mkF m 26 #[rv so, rv se, rv se] [(.ref so)])) t → Steps p.tables e below (s₁.setTop (entryFrame m #[(.ref so), (.ref se)] 3)) t := fun t kt => by
        refine pre774 _ ?_
        show Steps p.tables e below (T773.setTop (mkF m 22 #[rv so, rv se, rv se] [(.int cz)])) _
        refine XS.ifNo X773.here hx rfl (hb hby d24_22) rfl (XT.i0_eq_f qz) ?_
        refine XS.aloadN X773.here hx rfl (hb hby d24_25) rfl rfl ?_
        exact kt
      obtain ⟨T776, X776, e776, st776⟩ := getF X773 hx hZ hown (host := "") (Or.inl (W 33 rfl)) Via.refl e773 C651 (g := (mkF m 26 #[rv so, rv se, rv se] [(.ref so)])) rfl rfl (hb hby d24_26)
      have pre777 : ∀ t, Steps p.tables e below (T776.setTop (mkF m 29 #[rv so, rv se, rv se] [(.int (0 : Int32))])) t → Steps p.tables e below (s₁.setTop (entryFrame m #[(.ref so), (.ref se)] 3)) t := fun t kt => pre775 _ (st776 _ kt)
      have pre778 : ∀ t, Steps p.tables e below (T776.setTop (mkF m 30 #[rv so, rv se, rv se] [(.ref se), (.int (0 : Int32))])) t → Steps p.tables e below (s₁.setTop (entryFrame m #[(.ref so), (.ref se)] 3)) t := fun t kt => by
        refine pre777 _ ?_
        show Steps p.tables e below (T776.setTop (mkF m 29 #[rv so, rv se, rv se] [(.int (0 : Int32))])) _
        refine XS.aloadN X776.here hx rfl (hb hby d24_29) rfl rfl ?_
        exact kt
      obtain ⟨T779, X779, e779, st779⟩ := getF X776 hx hZ hown (host := "") (Or.inl (W 33 rfl)) Via.refl e776 C765 (g := (mkF m 30 #[rv so, rv se, rv se] [(.ref se), (.int (0 : Int32))])) rfl rfl (hb hby d24_30)
      have pre780 : ∀ t, Steps p.tables e below (T779.setTop (mkF m 33 #[rv so, rv se, rv se] [(.int (0 : Int32)), (.int (0 : Int32))])) t → Steps p.tables e below (s₁.setTop (entryFrame m #[(.ref so), (.ref se)] 3)) t := fun t kt => pre778 _ (st779 _ kt)
      have pre781 : ∀ t, Steps p.tables e below (T779.setTop (mkF m 37 #[rv so, rv se, rv se] [(.ref so)])) t → Steps p.tables e below (s₁.setTop (entryFrame m #[(.ref so), (.ref se)] 3)) t := fun t kt => by
        refine pre780 _ ?_
        show Steps p.tables e below (T779.setTop (mkF m 33 #[rv so, rv se, rv se] [(.int (0 : Int32)), (.int (0 : Int32))])) _
        refine XS.icmpNo X779.here hx rfl (hb hby d24_33) rfl (XT.ii_ne_f (by decide)) ?_
        refine XS.aloadN X779.here hx rfl (hb hby d24_36) rfl rfl ?_
        exact kt
      obtain ⟨T782, X782, e782, st782⟩ := getF X779 hx hZ hown (host := "") (Or.inl (W 35 rfl)) Via.refl e779 V651 (g := (mkF m 37 #[rv so, rv se, rv se] [(.ref so)])) rfl rfl (hb hby d24_37)
      have pre783 : ∀ t, Steps p.tables e below (T782.setTop (mkF m 40 #[rv so, rv se, rv se] [(.ref t651)])) t → Steps p.tables e below (s₁.setTop (entryFrame m #[(.ref so), (.ref se)] 3)) t := fun t kt => pre781 _ (st782 _ kt)
      have pre784 : ∀ t, Steps p.tables e below (T782.setTop (mkF m 41 #[rv so, rv se, rv se] [(.ref se), (.ref t651)])) t → Steps p.tables e below (s₁.setTop (entryFrame m #[(.ref so), (.ref se)] 3)) t := fun t kt => by
        refine pre783 _ ?_
        show Steps p.tables e below (T782.setTop (mkF m 40 #[rv so, rv se, rv se] [(.ref t651)])) _
        refine XS.aloadN X782.here hx rfl (hb hby d24_40) rfl rfl ?_
        exact kt
      obtain ⟨T785, X785, e785, st785⟩ := getF X782 hx hZ hown (host := "") (Or.inl (W 35 rfl)) Via.refl e782 V765 (g := (mkF m 41 #[rv so, rv se, rv se] [(.ref se), (.ref t651)])) rfl rfl (hb hby d24_41)
      have pre786 : ∀ t, Steps p.tables e below (T785.setTop (mkF m 44 #[rv so, rv se, rv se] [(.ref t765), (.ref t651)])) t → Steps p.tables e below (s₁.setTop (entryFrame m #[(.ref so), (.ref se)] 3)) t := fun t kt => pre784 _ (st785 _ kt)
      obtain ⟨_, _, ⟨T787, L787, k787, n787⟩, -, X787, ⟨Lc787, hQ787, l787, y787, z787⟩, st787⟩ := Jvm.LawKit.callS X785 hx (y := (⟨"java/lang/StringLatin1", "equals", "([B[B)Z"⟩ : MethodName)) hown (mvT hZ (W 135 rfl)) (mvT hZ (W 136 rfl)) (mvT hZ (W 137 rfl)) (mvT hZ (W 138 rfl)) (by decide) (backOf (W := 0) (rm_equals25_3 l Z a0 hw [] t651 t765 c0 k651 d0 d1 k765 h0 n0 O0 A651 A765) hZ (W 138 rfl) (W 137 rfl) (by decide) (by decide)) (g := (mkF m 44 #[rv so, rv se, rv se] [(.ref t765), (.ref t651)])) rfl (by rw [hml]; rfl) (argsL := [(.ref t651), (.ref t765)]) (rest := []) (lenOf pd_24 rfl) rfl (by show 2 * 0 + _ ≤ _; exact Nat.le_of_eq rfl) (hb hby d24_44) (fun _ _ => ⟨rfl, e785, (by decide : 0 + 0 ≤ _), (by decide : 0 + 0 ≤ _)⟩)
      dsimp only [Pt.U, Pt.locs, Pt.cells, Pt.slots] at X787 l787 y787 z787 st787 hQ787
      replace l787 := l787.symm
      replace y787 : 0 = k787 := y787.symm
      replace z787 : 0 = n787 := z787.symm
      subst l787 y787 z787
      obtain ⟨rfl, M787, e787⟩ := hQ787
      have N787 := Fr.app N0 M787
      have pre803 : ∀ t, Steps p.tables e below (T787.setTop (mkF m 47 #[rv so, rv se, rv se] [(.int (0 : Int32))])) t → Steps p.tables e below (s₁.setTop (entryFrame m #[(.ref so), (.ref se)] 3)) t := fun t kt => pre786 _ (st787 _ kt)
      have pre804 : ∀ t, Steps p.tables e below (T787.setTop (mkF m 55 #[rv so, rv se, rv se] [(.int (0 : Int32))])) t → Steps p.tables e below (s₁.setTop (entryFrame m #[(.ref so), (.ref se)] 3)) t := fun t kt => by
        refine pre803 _ ?_
        show Steps p.tables e below (T787.setTop (mkF m 47 #[rv so, rv se, rv se] [(.int (0 : Int32))])) _
        refine XS.ifYes X787.here hx rfl (pc0 := 47) (pc' := 54) rfl (hb hby d24_47) rfl (XT.i0_eq_t (by decide)) (by decide) (by decide) ?_
        refine XS.iconst X787.here hx rfl (hb hby d24_54) ?_
        exact kt
      -- returns (.int (0 : Int32)), wanted (.int (own_eqv (own_cs b1 c0 c1) (own_cs b2 d0 d1)))
      obtain ⟨fs, hr, hrun, hended, hW, hsame⟩ := X787.leave (v := some (.int (0 : Int32))) (fun h => by rw [Bd.returns] at h; cases h)
      refine ⟨_, _, pre804 _ (retN X787 hx (t := .boolean) Bd.returns (by simp) (hb hby d24_55) hr), hrun, hended, _, _, rfl, ?_, ⟨_, rfl⟩, hW, hsame.mono (by decide) (by decide)⟩
      show Q_equals Z so se cz b1 c0 c1 b2 d0 d1 h0 n0 _ T787.heap _
      rw [e787]
      exact ⟨(congrArg (fun z => some (Value.int z)) (by simp [own_eqv, own_cs, hb650, hb652])), N787, rfl⟩
  · obtain ⟨t805, k805, E805, C805, V805, A805⟩ := own_str_two Fi0 hb650
    by_cases hb806 : b2 = (0 : Int32)
    · obtain ⟨t807, k807, E807, C807, V807, A807⟩ := own_str_one Fi1 hb806
      have pre808 : ∀ t, Steps p.tables e below (s₁.setTop (mkF m 8 #[rv so, rv se, .unset] [(.ref se)])) t → Steps p.tables e below (s₁.setTop (entryFrame m #[(.ref so), (.ref se)] 3)) t := fun t kt => by
        refine pre0 _ ?_
        show Steps p.tables e below (s₁.setTop (mkF m 0 #[rv so, rv se, .unset] [])) _
        refine XS.aloadN X0.here hx rfl (hb hby d24_0) rfl rfl ?_
        refine XS.aloadN X0.here hx rfl (hb hby d24_1) rfl rfl ?_
        refine Jvm.RoadKit.acmp (g := (mkF m 2 #[rv so, rv se, .unset] [(.ref se), (.ref so)])) X0 hx rfl rfl rfl (pc0 := 2) (pc' := 7) (same := false) rfl (hb hby d24_2) rfl (decide_eq_false fun q => qn (Value.ref.inj q)) (by decide) (by decide) ?_
        refine XS.aloadN X0.here hx rfl (hb hby d24_7) rfl rfl ?_
        exact kt
      obtain ⟨T809, X809, e809, st809⟩ := instY X0 hx hZ hown (W 134 rfl) e0 (Ins.self E807) (g := (mkF m 8 #[rv so, rv se, .unset] [(.ref se)])) rfl rfl (hb hby d24_8)
      have pre810 : ∀ t, Steps p.tables e below (T809.setTop (mkF m 11 #[rv so, rv se, .unset] [(.int (1 : Int32))])) t → Steps p.tables e below (s₁.setTop (entryFrame m #[(.ref so), (.ref se)] 3)) t := fun t kt => pre808 _ (st809 _ kt)
      have pre811 : ∀ t, Steps p.tables e below (T809.setTop (mkF m 15 #[rv so, rv se, .unset] [(.ref se)])) t → Steps p.tables e below (s₁.setTop (entryFrame m #[(.ref so), (.ref se)] 3)) t := fun t kt => by
        refine pre810 _ ?_
        show Steps p.tables e below (T809.setTop (mkF m 11 #[rv so, rv se, .unset] [(.int (1 : Int32))])) _
        refine XS.ifNo X809.here hx rfl (hb hby d24_11) rfl (XT.i0_eq_f (by decide)) ?_
        refine XS.aloadN X809.here hx rfl (hb hby d24_14) rfl rfl ?_
        exact kt
      obtain ⟨T812, X812, e812, st812⟩ := castY X809 hx hZ hown (W 134 rfl) e809 (Ins.self E807) (g := (mkF m 15 #[rv so, rv se, .unset] [(.ref se)])) rfl rfl (hb hby d24_15)
      have pre813 : ∀ t, Steps p.tables e below (T812.setTop (mkF m 18 #[rv so, rv se, .unset] [(.ref se)])) t → Steps p.tables e below (s₁.setTop (entryFrame m #[(.ref so), (.ref se)] 3)) t := fun t kt => pre811 _ (st812 _ kt)
      have pre814 : ∀ t, Steps p.tables e below (T812.setTop (mkF m 19 #[rv so, rv se, rv se] [])) t → Steps p.tables e below (s₁.setTop (entryFrame m #[(.ref so), (.ref se)] 3)) t := fun t kt => by
        refine pre813 _ ?_
        show Steps p.tables e below (T812.setTop (mkF m 18 #[rv so, rv se, .unset] [(.ref se)])) _
        refine XS.astoreN X812.here hx rfl (hb hby d24_18) rfl rfl (l' := #[rv so, rv se, rv se]) rfl ?_
        exact kt
      obtain ⟨T815, X815, e815, st815⟩ := getS2 X812 hx hZ hown (host := "") (Or.inl (W 21 rfl)) Via.refl e812 (G0.ext O0.2) (g := (mkF m 19 #[rv so, rv se, rv se] [])) rfl (hb hby d24_19)
      have pre816 : ∀ t, Steps p.tables e below (T815.setTop (mkF m 22 #[rv so, rv se, rv se] [(.int cz)])) t → Steps p.tables e below (s₁.setTop (entryFrame m #[(.ref so), (.ref se)] 3)) t := fun t kt => pre814 _ (st815 _ kt)
      have pre817 : ∀ t, Steps p.tables e below (T815.setTop (mkF m 26 #[rv so, rv se, rv se] [(.ref so)])) t → Steps p.tables e below (s₁.setTop (entryFrame m #[(.ref so), (.ref se)] 3)) t := fun t kt => by
        refine pre816 _ ?_
        show Steps p.tables e below (T815.setTop (mkF m 22 #[rv so, rv se, rv se] [(.int cz)])) _
        refine XS.ifNo X815.here hx rfl (hb hby d24_22) rfl (XT.i0_eq_f qz) ?_
        refine XS.aloadN X815.here hx rfl (hb hby d24_25) rfl rfl ?_
        exact kt
      obtain ⟨T818, X818, e818, st818⟩ := getF X815 hx hZ hown (host := "") (Or.inl (W 33 rfl)) Via.refl e815 C805 (g := (mkF m 26 #[rv so, rv se, rv se] [(.ref so)])) rfl rfl (hb hby d24_26)
      have pre819 : ∀ t, Steps p.tables e below (T818.setTop (mkF m 29 #[rv so, rv se, rv se] [(.int (0 : Int32))])) t → Steps p.tables e below (s₁.setTop (entryFrame m #[(.ref so), (.ref se)] 3)) t := fun t kt => pre817 _ (st818 _ kt)
      have pre820 : ∀ t, Steps p.tables e below (T818.setTop (mkF m 30 #[rv so, rv se, rv se] [(.ref se), (.int (0 : Int32))])) t → Steps p.tables e below (s₁.setTop (entryFrame m #[(.ref so), (.ref se)] 3)) t := fun t kt => by
        refine pre819 _ ?_
        show Steps p.tables e below (T818.setTop (mkF m 29 #[rv so, rv se, rv se] [(.int (0 : Int32))])) _
        refine XS.aloadN X818.here hx rfl (hb hby d24_29) rfl rfl ?_
        exact kt
      obtain ⟨T821, X821, e821, st821⟩ := getF X818 hx hZ hown (host := "") (Or.inl (W 33 rfl)) Via.refl e818 C807 (g := (mkF m 30 #[rv so, rv se, rv se] [(.ref se), (.int (0 : Int32))])) rfl rfl (hb hby d24_30)
      have pre822 : ∀ t, Steps p.tables e below (T821.setTop (mkF m 33 #[rv so, rv se, rv se] [(.int (0 : Int32)), (.int (0 : Int32))])) t → Steps p.tables e below (s₁.setTop (entryFrame m #[(.ref so), (.ref se)] 3)) t := fun t kt => pre820 _ (st821 _ kt)
      have pre823 : ∀ t, Steps p.tables e below (T821.setTop (mkF m 37 #[rv so, rv se, rv se] [(.ref so)])) t → Steps p.tables e below (s₁.setTop (entryFrame m #[(.ref so), (.ref se)] 3)) t := fun t kt => by
        refine pre822 _ ?_
        show Steps p.tables e below (T821.setTop (mkF m 33 #[rv so, rv se, rv se] [(.int (0 : Int32)), (.int (0 : Int32))])) _
        refine XS.icmpNo X821.here hx rfl (hb hby d24_33) rfl (XT.ii_ne_f (by decide)) ?_
        refine XS.aloadN X821.here hx rfl (hb hby d24_36) rfl rfl ?_
        exact kt
      obtain ⟨T824, X824, e824, st824⟩ := getF X821 hx hZ hown (host := "") (Or.inl (W 35 rfl)) Via.refl e821 V805 (g := (mkF m 37 #[rv so, rv se, rv se] [(.ref so)])) rfl rfl (hb hby d24_37)
      have pre825 : ∀ t, Steps p.tables e below (T824.setTop (mkF m 40 #[rv so, rv se, rv se] [(.ref t805)])) t → Steps p.tables e below (s₁.setTop (entryFrame m #[(.ref so), (.ref se)] 3)) t := fun t kt => pre823 _ (st824 _ kt)
      have pre826 : ∀ t, Steps p.tables e below (T824.setTop (mkF m 41 #[rv so, rv se, rv se] [(.ref se), (.ref t805)])) t → Steps p.tables e below (s₁.setTop (entryFrame m #[(.ref so), (.ref se)] 3)) t := fun t kt => by
        refine pre825 _ ?_
        show Steps p.tables e below (T824.setTop (mkF m 40 #[rv so, rv se, rv se] [(.ref t805)])) _
        refine XS.aloadN X824.here hx rfl (hb hby d24_40) rfl rfl ?_
        exact kt
      obtain ⟨T827, X827, e827, st827⟩ := getF X824 hx hZ hown (host := "") (Or.inl (W 35 rfl)) Via.refl e824 V807 (g := (mkF m 41 #[rv so, rv se, rv se] [(.ref se), (.ref t805)])) rfl rfl (hb hby d24_41)
      have pre828 : ∀ t, Steps p.tables e below (T827.setTop (mkF m 44 #[rv so, rv se, rv se] [(.ref t807), (.ref t805)])) t → Steps p.tables e below (s₁.setTop (entryFrame m #[(.ref so), (.ref se)] 3)) t := fun t kt => pre826 _ (st827 _ kt)
      obtain ⟨_, _, ⟨T829, L829, k829, n829⟩, -, X829, ⟨Lc829, hQ829, l829, y829, z829⟩, st829⟩ := Jvm.LawKit.callS X827 hx (y := (⟨"java/lang/StringLatin1", "equals", "([B[B)Z"⟩ : MethodName)) hown (mvT hZ (W 135 rfl)) (mvT hZ (W 136 rfl)) (mvT hZ (W 137 rfl)) (mvT hZ (W 138 rfl)) (by decide) (backOf (W := 0) (rm_equals25_4 l Z a0 hw [] t805 t807 c0 c1 k805 d0 k807 h0 n0 O0 A805 A807) hZ (W 138 rfl) (W 137 rfl) (by decide) (by decide)) (g := (mkF m 44 #[rv so, rv se, rv se] [(.ref t807), (.ref t805)])) rfl (by rw [hml]; rfl) (argsL := [(.ref t805), (.ref t807)]) (rest := []) (lenOf pd_24 rfl) rfl (by show 2 * 0 + _ ≤ _; exact Nat.le_of_eq rfl) (hb hby d24_44) (fun _ _ => ⟨rfl, e827, (by decide : 0 + 0 ≤ _), (by decide : 0 + 0 ≤ _)⟩)
      dsimp only [Pt.U, Pt.locs, Pt.cells, Pt.slots] at X829 l829 y829 z829 st829 hQ829
      replace l829 := l829.symm
      replace y829 : 0 = k829 := y829.symm
      replace z829 : 0 = n829 := z829.symm
      subst l829 y829 z829
      obtain ⟨rfl, M829, e829⟩ := hQ829
      have N829 := Fr.app N0 M829
      have pre845 : ∀ t, Steps p.tables e below (T829.setTop (mkF m 47 #[rv so, rv se, rv se] [(.int (0 : Int32))])) t → Steps p.tables e below (s₁.setTop (entryFrame m #[(.ref so), (.ref se)] 3)) t := fun t kt => pre828 _ (st829 _ kt)
      have pre846 : ∀ t, Steps p.tables e below (T829.setTop (mkF m 55 #[rv so, rv se, rv se] [(.int (0 : Int32))])) t → Steps p.tables e below (s₁.setTop (entryFrame m #[(.ref so), (.ref se)] 3)) t := fun t kt => by
        refine pre845 _ ?_
        show Steps p.tables e below (T829.setTop (mkF m 47 #[rv so, rv se, rv se] [(.int (0 : Int32))])) _
        refine XS.ifYes X829.here hx rfl (pc0 := 47) (pc' := 54) rfl (hb hby d24_47) rfl (XT.i0_eq_t (by decide)) (by decide) (by decide) ?_
        refine XS.iconst X829.here hx rfl (hb hby d24_54) ?_
        exact kt
      -- returns (.int (0 : Int32)), wanted (.int (own_eqv (own_cs b1 c0 c1) (own_cs b2 d0 d1)))
      obtain ⟨fs, hr, hrun, hended, hW, hsame⟩ := X829.leave (v := some (.int (0 : Int32))) (fun h => by rw [Bd.returns] at h; cases h)
      refine ⟨_, _, pre846 _ (retN X829 hx (t := .boolean) Bd.returns (by simp) (hb hby d24_55) hr), hrun, hended, _, _, rfl, ?_, ⟨_, rfl⟩, hW, hsame.mono (by decide) (by decide)⟩
      show Q_equals Z so se cz b1 c0 c1 b2 d0 d1 h0 n0 _ T829.heap _
      rw [e829]
      exact ⟨(congrArg (fun z => some (Value.int z)) (by simp [own_eqv, own_cs, hb650, hb806])), N829, rfl⟩
    · obtain ⟨t847, k847, E847, C847, V847, A847⟩ := own_str_two Fi1 hb806
      have pre848 : ∀ t, Steps p.tables e below (s₁.setTop (mkF m 8 #[rv so, rv se, .unset] [(.ref se)])) t → Steps p.tables e below (s₁.setTop (entryFrame m #[(.ref so), (.ref se)] 3)) t := fun t kt => by
        refine pre0 _ ?_
        show Steps p.tables e below (s₁.setTop (mkF m 0 #[rv so, rv se, .unset] [])) _
        refine XS.aloadN X0.here hx rfl (hb hby d24_0) rfl rfl ?_
        refine XS.aloadN X0.here hx rfl (hb hby d24_1) rfl rfl ?_
        refine Jvm.RoadKit.acmp (g := (mkF m 2 #[rv so, rv se, .unset] [(.ref se), (.ref so)])) X0 hx rfl rfl rfl (pc0 := 2) (pc' := 7) (same := false) rfl (hb hby d24_2) rfl (decide_eq_false fun q => qn (Value.ref.inj q)) (by decide) (by decide) ?_
        refine XS.aloadN X0.here hx rfl (hb hby d24_7) rfl rfl ?_
        exact kt
      obtain ⟨T849, X849, e849, st849⟩ := instY X0 hx hZ hown (W 134 rfl) e0 (Ins.self E847) (g := (mkF m 8 #[rv so, rv se, .unset] [(.ref se)])) rfl rfl (hb hby d24_8)
      have pre850 : ∀ t, Steps p.tables e below (T849.setTop (mkF m 11 #[rv so, rv se, .unset] [(.int (1 : Int32))])) t → Steps p.tables e below (s₁.setTop (entryFrame m #[(.ref so), (.ref se)] 3)) t := fun t kt => pre848 _ (st849 _ kt)
      have pre851 : ∀ t, Steps p.tables e below (T849.setTop (mkF m 15 #[rv so, rv se, .unset] [(.ref se)])) t → Steps p.tables e below (s₁.setTop (entryFrame m #[(.ref so), (.ref se)] 3)) t := fun t kt => by
        refine pre850 _ ?_
        show Steps p.tables e below (T849.setTop (mkF m 11 #[rv so, rv se, .unset] [(.int (1 : Int32))])) _
        refine XS.ifNo X849.here hx rfl (hb hby d24_11) rfl (XT.i0_eq_f (by decide)) ?_
        refine XS.aloadN X849.here hx rfl (hb hby d24_14) rfl rfl ?_
        exact kt
      obtain ⟨T852, X852, e852, st852⟩ := castY X849 hx hZ hown (W 134 rfl) e849 (Ins.self E847) (g := (mkF m 15 #[rv so, rv se, .unset] [(.ref se)])) rfl rfl (hb hby d24_15)
      have pre853 : ∀ t, Steps p.tables e below (T852.setTop (mkF m 18 #[rv so, rv se, .unset] [(.ref se)])) t → Steps p.tables e below (s₁.setTop (entryFrame m #[(.ref so), (.ref se)] 3)) t := fun t kt => pre851 _ (st852 _ kt)
      have pre854 : ∀ t, Steps p.tables e below (T852.setTop (mkF m 19 #[rv so, rv se, rv se] [])) t → Steps p.tables e below (s₁.setTop (entryFrame m #[(.ref so), (.ref se)] 3)) t := fun t kt => by
        refine pre853 _ ?_
        show Steps p.tables e below (T852.setTop (mkF m 18 #[rv so, rv se, .unset] [(.ref se)])) _
        refine XS.astoreN X852.here hx rfl (hb hby d24_18) rfl rfl (l' := #[rv so, rv se, rv se]) rfl ?_
        exact kt
      obtain ⟨T855, X855, e855, st855⟩ := getS2 X852 hx hZ hown (host := "") (Or.inl (W 21 rfl)) Via.refl e852 (G0.ext O0.2) (g := (mkF m 19 #[rv so, rv se, rv se] [])) rfl (hb hby d24_19)
      have pre856 : ∀ t, Steps p.tables e below (T855.setTop (mkF m 22 #[rv so, rv se, rv se] [(.int cz)])) t → Steps p.tables e below (s₁.setTop (entryFrame m #[(.ref so), (.ref se)] 3)) t := fun t kt => pre854 _ (st855 _ kt)
      have pre857 : ∀ t, Steps p.tables e below (T855.setTop (mkF m 26 #[rv so, rv se, rv se] [(.ref so)])) t → Steps p.tables e below (s₁.setTop (entryFrame m #[(.ref so), (.ref se)] 3)) t := fun t kt => by
        refine pre856 _ ?_
        show Steps p.tables e below (T855.setTop (mkF m 22 #[rv so, rv se, rv se] [(.int cz)])) _
        refine XS.ifNo X855.here hx rfl (hb hby d24_22) rfl (XT.i0_eq_f qz) ?_
        refine XS.aloadN X855.here hx rfl (hb hby d24_25) rfl rfl ?_
        exact kt
      obtain ⟨T858, X858, e858, st858⟩ := getF X855 hx hZ hown (host := "") (Or.inl (W 33 rfl)) Via.refl e855 C805 (g := (mkF m 26 #[rv so, rv se, rv se] [(.ref so)])) rfl rfl (hb hby d24_26)
      have pre859 : ∀ t, Steps p.tables e below (T858.setTop (mkF m 29 #[rv so, rv se, rv se] [(.int (0 : Int32))])) t → Steps p.tables e below (s₁.setTop (entryFrame m #[(.ref so), (.ref se)] 3)) t := fun t kt => pre857 _ (st858 _ kt)
      have pre860 : ∀ t, Steps p.tables e below (T858.setTop (mkF m 30 #[rv so, rv se, rv se] [(.ref se), (.int (0 : Int32))])) t → Steps p.tables e below (s₁.setTop (entryFrame m #[(.ref so), (.ref se)] 3)) t := fun t kt => by
        refine pre859 _ ?_
        show Steps p.tables e below (T858.setTop (mkF m 29 #[rv so, rv se, rv se] [(.int (0 : Int32))])) _
        refine XS.aloadN X858.here hx rfl (hb hby d24_29) rfl rfl ?_
        exact kt
      obtain ⟨T861, X861, e861, st861⟩ := getF X858 hx hZ hown (host := "") (Or.inl (W 33 rfl)) Via.refl e858 C847 (g := (mkF m 30 #[rv so, rv se, rv se] [(.ref se), (.int (0 : Int32))])) rfl rfl (hb hby d24_30)
      have pre862 : ∀ t, Steps p.tables e below (T861.setTop (mkF m 33 #[rv so, rv se, rv se] [(.int (0 : Int32)), (.int (0 : Int32))])) t → Steps p.tables e below (s₁.setTop (entryFrame m #[(.ref so), (.ref se)] 3)) t := fun t kt => pre860 _ (st861 _ kt)
      have pre863 : ∀ t, Steps p.tables e below (T861.setTop (mkF m 37 #[rv so, rv se, rv se] [(.ref so)])) t → Steps p.tables e below (s₁.setTop (entryFrame m #[(.ref so), (.ref se)] 3)) t := fun t kt => by
        refine pre862 _ ?_
        show Steps p.tables e below (T861.setTop (mkF m 33 #[rv so, rv se, rv se] [(.int (0 : Int32)), (.int (0 : Int32))])) _
        refine XS.icmpNo X861.here hx rfl (hb hby d24_33) rfl (XT.ii_ne_f (by decide)) ?_
        refine XS.aloadN X861.here hx rfl (hb hby d24_36) rfl rfl ?_
        exact kt
      obtain ⟨T864, X864, e864, st864⟩ := getF X861 hx hZ hown (host := "") (Or.inl (W 35 rfl)) Via.refl e861 V805 (g := (mkF m 37 #[rv so, rv se, rv se] [(.ref so)])) rfl rfl (hb hby d24_37)
      have pre865 : ∀ t, Steps p.tables e below (T864.setTop (mkF m 40 #[rv so, rv se, rv se] [(.ref t805)])) t → Steps p.tables e below (s₁.setTop (entryFrame m #[(.ref so), (.ref se)] 3)) t := fun t kt => pre863 _ (st864 _ kt)
      have pre866 : ∀ t, Steps p.tables e below (T864.setTop (mkF m 41 #[rv so, rv se, rv se] [(.ref se), (.ref t805)])) t → Steps p.tables e below (s₁.setTop (entryFrame m #[(.ref so), (.ref se)] 3)) t := fun t kt => by
        refine pre865 _ ?_
        show Steps p.tables e below (T864.setTop (mkF m 40 #[rv so, rv se, rv se] [(.ref t805)])) _
        refine XS.aloadN X864.here hx rfl (hb hby d24_40) rfl rfl ?_
        exact kt
      obtain ⟨T867, X867, e867, st867⟩ := getF X864 hx hZ hown (host := "") (Or.inl (W 35 rfl)) Via.refl e864 V847 (g := (mkF m 41 #[rv so, rv se, rv se] [(.ref se), (.ref t805)])) rfl rfl (hb hby d24_41)
      have pre868 : ∀ t, Steps p.tables e below (T867.setTop (mkF m 44 #[rv so, rv se, rv se] [(.ref t847), (.ref t805)])) t → Steps p.tables e below (s₁.setTop (entryFrame m #[(.ref so), (.ref se)] 3)) t := fun t kt => pre866 _ (st867 _ kt)
      by_cases hc880 : c0 = d0
      · by_cases hc898 : c1 = d1
        · obtain ⟨_, _, ⟨T899, L899, k899, n899⟩, -, X899, ⟨Lc899, hQ899, l899, y899, z899⟩, st899⟩ := Jvm.LawKit.callS X867 hx (y := (⟨"java/lang/StringLatin1", "equals", "([B[B)Z"⟩ : MethodName)) hown (mvT hZ (W 135 rfl)) (mvT hZ (W 136 rfl)) (mvT hZ (W 137 rfl)) (mvT hZ (W 138 rfl)) (by decide) (backOf (W := 0) (rm_equals25_7 l Z a0 hw [] t805 t847 c0 c1 k805 d0 d1 k847 h0 n0 O0 A805 A847 hc880.symm hc898.symm) hZ (W 138 rfl) (W 137 rfl) (by decide) (by decide)) (g := (mkF m 44 #[rv so, rv se, rv se] [(.ref t847), (.ref t805)])) rfl (by rw [hml]; rfl) (argsL := [(.ref t805), (.ref t847)]) (rest := []) (lenOf pd_24 rfl) rfl (by show 2 * 0 + _ ≤ _; exact Nat.le_of_eq rfl) (hb hby d24_44) (fun _ _ => ⟨rfl, e867, (by decide : 0 + 0 ≤ _), (by decide : 0 + 0 ≤ _)⟩)
          dsimp only [Pt.U, Pt.locs, Pt.cells, Pt.slots] at X899 l899 y899 z899 st899 hQ899
          replace l899 := l899.symm
          replace y899 : 0 = k899 := y899.symm
          replace z899 : 0 = n899 := z899.symm
          subst l899 y899 z899
          obtain ⟨rfl, M899, e899⟩ := hQ899
          have N899 := Fr.app N0 M899
          have pre957 : ∀ t, Steps p.tables e below (T899.setTop (mkF m 47 #[rv so, rv se, rv se] [(.int (1 : Int32))])) t → Steps p.tables e below (s₁.setTop (entryFrame m #[(.ref so), (.ref se)] 3)) t := fun t kt => pre868 _ (st899 _ kt)
          have pre958 : ∀ t, Steps p.tables e below (T899.setTop (mkF m 55 #[rv so, rv se, rv se] [(.int (1 : Int32))])) t → Steps p.tables e below (s₁.setTop (entryFrame m #[(.ref so), (.ref se)] 3)) t := fun t kt => by
            refine pre957 _ ?_
            show Steps p.tables e below (T899.setTop (mkF m 47 #[rv so, rv se, rv se] [(.int (1 : Int32))])) _
            refine XS.ifNo X899.here hx rfl (hb hby d24_47) rfl (XT.i0_eq_f (by decide)) ?_
            refine XS.iconst X899.here hx rfl (hb hby d24_50) ?_
            refine XS.goto X899.here hx rfl (pc0 := 51) (pc' := 55) rfl (hb hby d24_51) (by decide) (by decide) ?_
            exact kt
          -- returns (.int (1 : Int32)), wanted (.int (own_eqv (own_cs b1 c0 c1) (own_cs b2 d0 d1)))
          obtain ⟨fs, hr, hrun, hended, hW, hsame⟩ := X899.leave (v := some (.int (1 : Int32))) (fun h => by rw [Bd.returns] at h; cases h)
          refine ⟨_, _, pre958 _ (retN X899 hx (t := .boolean) Bd.returns (by simp) (hb hby d24_55) hr), hrun, hended, _, _, rfl, ?_, ⟨_, rfl⟩, hW, hsame.mono (by decide) (by decide)⟩
          show Q_equals Z so se cz b1 c0 c1 b2 d0 d1 h0 n0 _ T899.heap _
          rw [e899]
          exact ⟨(congrArg (fun z => some (Value.int z)) (by simp [own_eqv, own_cs, hb650, hb806, hc880, hc898])), N899, rfl⟩
        · obtain ⟨_, _, ⟨T959, L959, k959, n959⟩, -, X959, ⟨Lc959, hQ959, l959, y959, z959⟩, st959⟩ := Jvm.LawKit.callS X867 hx (y := (⟨"java/lang/StringLatin1", "equals", "([B[B)Z"⟩ : MethodName)) hown (mvT hZ (W 135 rfl)) (mvT hZ (W 136 rfl)) (mvT hZ (W 137 rfl)) (mvT hZ (W 138 rfl)) (by decide) (backOf (W := 0) (rm_equals25_8 l Z a0 hw [] t805 t847 c0 c1 k805 d0 d1 k847 h0 n0 O0 A805 A847 hc880.symm (fun q => hc898 q.symm)) hZ (W 138 rfl) (W 137 rfl) (by decide) (by decide)) (g := (mkF m 44 #[rv so, rv se, rv se] [(.ref t847), (.ref t805)])) rfl (by rw [hml]; rfl) (argsL := [(.ref t805), (.ref t847)]) (rest := []) (lenOf pd_24 rfl) rfl (by show 2 * 0 + _ ≤ _; exact Nat.le_of_eq rfl) (hb hby d24_44) (fun _ _ => ⟨rfl, e867, (by decide : 0 + 0 ≤ _), (by decide : 0 + 0 ≤ _)⟩)
          dsimp only [Pt.U, Pt.locs, Pt.cells, Pt.slots] at X959 l959 y959 z959 st959 hQ959
          replace l959 := l959.symm
          replace y959 : 0 = k959 := y959.symm
          replace z959 : 0 = n959 := z959.symm
          subst l959 y959 z959
          obtain ⟨rfl, M959, e959⟩ := hQ959
          have N959 := Fr.app N0 M959
          have pre1011 : ∀ t, Steps p.tables e below (T959.setTop (mkF m 47 #[rv so, rv se, rv se] [(.int (0 : Int32))])) t → Steps p.tables e below (s₁.setTop (entryFrame m #[(.ref so), (.ref se)] 3)) t := fun t kt => pre868 _ (st959 _ kt)
          have pre1012 : ∀ t, Steps p.tables e below (T959.setTop (mkF m 55 #[rv so, rv se, rv se] [(.int (0 : Int32))])) t → Steps p.tables e below (s₁.setTop (entryFrame m #[(.ref so), (.ref se)] 3)) t := fun t kt => by
            refine pre1011 _ ?_
            show Steps p.tables e below (T959.setTop (mkF m 47 #[rv so, rv se, rv se] [(.int (0 : Int32))])) _
            refine XS.ifYes X959.here hx rfl (pc0 := 47) (pc' := 54) rfl (hb hby d24_47) rfl (XT.i0_eq_t (by decide)) (by decide) (by decide) ?_
            refine XS.iconst X959.here hx rfl (hb hby d24_54) ?_
            exact kt
          -- returns (.int (0 : Int32)), wanted (.int (own_eqv (own_cs b1 c0 c1) (own_cs b2 d0 d1)))
          obtain ⟨fs, hr, hrun, hended, hW, hsame⟩ := X959.leave (v := some (.int (0 : Int32))) (fun h => by rw [Bd.returns] at h; cases h)
          refine ⟨_, _, pre1012 _ (retN X959 hx (t := .boolean) Bd.returns (by simp) (hb hby d24_55) hr), hrun, hended, _, _, rfl, ?_, ⟨_, rfl⟩, hW, hsame.mono (by decide) (by decide)⟩
          show Q_equals Z so se cz b1 c0 c1 b2 d0 d1 h0 n0 _ T959.heap _
          rw [e959]
          exact ⟨(congrArg (fun z => some (Value.int z)) (by simp [own_eqv, own_cs, hb650, hb806, hc880, hc898])), N959, rfl⟩
      · obtain ⟨_, _, ⟨T1013, L1013, k1013, n1013⟩, -, X1013, ⟨Lc1013, hQ1013, l1013, y1013, z1013⟩, st1013⟩ := Jvm.LawKit.callS X867 hx (y := (⟨"java/lang/StringLatin1", "equals", "([B[B)Z"⟩ : MethodName)) hown (mvT hZ (W 135 rfl)) (mvT hZ (W 136 rfl)) (mvT hZ (W 137 rfl)) (mvT hZ (W 138 rfl)) (by decide) (backOf (W := 0) (rm_equals25_9 l Z a0 hw [] t805 t847 c0 c1 k805 d0 d1 k847 h0 n0 O0 A805 A847 (fun q => hc880 q.symm)) hZ (W 138 rfl) (W 137 rfl) (by decide) (by decide)) (g := (mkF m 44 #[rv so, rv se, rv se] [(.ref t847), (.ref t805)])) rfl (by rw [hml]; rfl) (argsL := [(.ref t805), (.ref t847)]) (rest := []) (lenOf pd_24 rfl) rfl (by show 2 * 0 + _ ≤ _; exact Nat.le_of_eq rfl) (hb hby d24_44) (fun _ _ => ⟨rfl, e867, (by decide : 0 + 0 ≤ _), (by decide : 0 + 0 ≤ _)⟩)
        dsimp only [Pt.U, Pt.locs, Pt.cells, Pt.slots] at X1013 l1013 y1013 z1013 st1013 hQ1013
        replace l1013 := l1013.symm
        replace y1013 : 0 = k1013 := y1013.symm
        replace z1013 : 0 = n1013 := z1013.symm
        subst l1013 y1013 z1013
        obtain ⟨rfl, M1013, e1013⟩ := hQ1013
        have N1013 := Fr.app N0 M1013
        have pre1047 : ∀ t, Steps p.tables e below (T1013.setTop (mkF m 47 #[rv so, rv se, rv se] [(.int (0 : Int32))])) t → Steps p.tables e below (s₁.setTop (entryFrame m #[(.ref so), (.ref se)] 3)) t := fun t kt => pre868 _ (st1013 _ kt)
        have pre1048 : ∀ t, Steps p.tables e below (T1013.setTop (mkF m 55 #[rv so, rv se, rv se] [(.int (0 : Int32))])) t → Steps p.tables e below (s₁.setTop (entryFrame m #[(.ref so), (.ref se)] 3)) t := fun t kt => by
          refine pre1047 _ ?_
          show Steps p.tables e below (T1013.setTop (mkF m 47 #[rv so, rv se, rv se] [(.int (0 : Int32))])) _
          refine XS.ifYes X1013.here hx rfl (pc0 := 47) (pc' := 54) rfl (hb hby d24_47) rfl (XT.i0_eq_t (by decide)) (by decide) (by decide) ?_
          refine XS.iconst X1013.here hx rfl (hb hby d24_54) ?_
          exact kt
        -- returns (.int (0 : Int32)), wanted (.int (own_eqv (own_cs b1 c0 c1) (own_cs b2 d0 d1)))
        obtain ⟨fs, hr, hrun, hended, hW, hsame⟩ := X1013.leave (v := some (.int (0 : Int32))) (fun h => by rw [Bd.returns] at h; cases h)
        refine ⟨_, _, pre1048 _ (retN X1013 hx (t := .boolean) Bd.returns (by simp) (hb hby d24_55) hr), hrun, hended, _, _, rfl, ?_, ⟨_, rfl⟩, hW, hsame.mono (by decide) (by decide)⟩
        show Q_equals Z so se cz b1 c0 c1 b2 d0 d1 h0 n0 _ T1013.heap _
        rw [e1013]
        exact ⟨(congrArg (fun z => some (Value.int z)) (by simp [own_eqv, own_cs, hb650, hb806, hc880])), N1013, rfl⟩
theorem pn_25 : plainName "com/example/homethread/homethread/cli/ScenarioReport" = true := by first | (simp [plainName, overriddenIn]; done) | decide +kernel
theorem ef_26 (m : MethodId) (x0 : Addr) (x1 : Addr) (x2 : Addr) : entryFrame m #[(.ref x0), (.ref x1), (.ref x2)] 3 = mkF m 0 #[.val (.ref x0), .val (.ref x1), .val (.ref x2)] [] := by first | (simp [entryFrame, mkF, argsToLocals, Value.category]; done) | rfl
theorem d18_0 : decode prog_42_method_3_code 0 = .ok (.aload_n 0, 1) := by decide +kernel
theorem d18_1 : decode prog_42_method_3_code 1 = .ok (.getfield 10, 3) := by decide +kernel
theorem d18_4 : decode prog_42_method_3_code 4 = .ok (.aload_n 2, 1) := by decide +kernel
theorem d18_5 : decode prog_42_method_3_code 5 = .ok (.invokeinterface 30 2, 5) := by decide +kernel
theorem d19_0 : decode jdk_38_method_25_code 0 = .ok (.aload_n 0, 1) := by decide +kernel
theorem d19_1 : decode jdk_38_method_25_code 1 = .ok (.dup, 1) := by decide +kernel
theorem d19_2 : decode jdk_38_method_25_code 2 = .ok (.getfield 63, 3) := by decide +kernel
theorem d19_5 : decode jdk_38_method_25_code 5 = .ok (.iconst 1, 1) := by decide +kernel
theorem d19_6 : decode jdk_38_method_25_code 6 = .ok (.iadd, 1) := by decide +kernel
theorem d19_7 : decode jdk_38_method_25_code 7 = .ok (.putfield 63, 3) := by decide +kernel
theorem d19_10 : decode jdk_38_method_25_code 10 = .ok (.aload_n 0, 1) := by decide +kernel
theorem d19_11 : decode jdk_38_method_25_code 11 = .ok (.aload_n 1, 1) := by decide +kernel
theorem d19_12 : decode jdk_38_method_25_code 12 = .ok (.aload_n 0, 1) := by decide +kernel
theorem d19_13 : decode jdk_38_method_25_code 13 = .ok (.getfield 9, 3) := by decide +kernel
theorem d19_16 : decode jdk_38_method_25_code 16 = .ok (.aload_n 0, 1) := by decide +kernel
theorem d19_17 : decode jdk_38_method_25_code 17 = .ok (.getfield 48, 3) := by decide +kernel
theorem d19_20 : decode jdk_38_method_25_code 20 = .ok (.invokevirtual 131, 3) := by decide +kernel
theorem d20_0 : decode jdk_38_method_24_code 0 = .ok (.iload_n 3, 1) := by decide +kernel
theorem d20_1 : decode jdk_38_method_24_code 1 = .ok (.aload_n 2, 1) := by decide +kernel
theorem d20_2 : decode jdk_38_method_24_code 2 = .ok (.arraylength, 1) := by decide +kernel
theorem d20_3 : decode jdk_38_method_24_code 3 = .ok (.if_icmp .ne 8, 3) := by decide +kernel
theorem d20_6 : decode jdk_38_method_24_code 6 = .ok (.aload_n 0, 1) := by decide +kernel
theorem d20_7 : decode jdk_38_method_24_code 7 = .ok (.invokevirtual 129, 3) := by decide +kernel
theorem d21_0 : decode jdk_38_method_7_code 0 = .ok (.aload_n 0, 1) := by decide +kernel
theorem d21_1 : decode jdk_38_method_7_code 1 = .ok (.aload_n 0, 1) := by decide +kernel
theorem d21_2 : decode jdk_38_method_7_code 2 = .ok (.getfield 48, 3) := by decide +kernel
theorem d21_5 : decode jdk_38_method_7_code 5 = .ok (.iconst 1, 1) := by decide +kernel
theorem d21_6 : decode jdk_38_method_7_code 6 = .ok (.iadd, 1) := by decide +kernel
theorem d21_7 : decode jdk_38_method_7_code 7 = .ok (.invokevirtual 69, 3) := by decide +kernel
theorem d22_0 : decode jdk_38_method_6_code 0 = .ok (.aload_n 0, 1) := by decide +kernel
theorem d22_1 : decode jdk_38_method_6_code 1 = .ok (.getfield 9, 3) := by decide +kernel
theorem d22_4 : decode jdk_38_method_6_code 4 = .ok (.arraylength, 1) := by decide +kernel
theorem d22_5 : decode jdk_38_method_6_code 5 = .ok (.istore_n 2, 1) := by decide +kernel
theorem d22_6 : decode jdk_38_method_6_code 6 = .ok (.iload_n 2, 1) := by decide +kernel
theorem d22_7 : decode jdk_38_method_6_code 7 = .ok (.ifCond .gt 13, 3) := by decide +kernel
theorem d22_10 : decode jdk_38_method_6_code 10 = .ok (.aload_n 0, 1) := by decide +kernel
theorem d22_11 : decode jdk_38_method_6_code 11 = .ok (.getfield 9, 3) := by decide +kernel
theorem d22_14 : decode jdk_38_method_6_code 14 = .ok (.getstatic 39, 3) := by decide +kernel
theorem d22_17 : decode jdk_38_method_6_code 17 = .ok (.if_acmp .eq 28, 3) := by decide +kernel
theorem d22_45 : decode jdk_38_method_6_code 45 = .ok (.aload_n 0, 1) := by decide +kernel
theorem d22_46 : decode jdk_38_method_6_code 46 = .ok (.bipush 10, 2) := by decide +kernel
theorem d22_48 : decode jdk_38_method_6_code 48 = .ok (.iload_n 1, 1) := by decide +kernel
theorem d22_49 : decode jdk_38_method_6_code 49 = .ok (.invokestatic 79, 3) := by decide +kernel
theorem d23_0 : decode jdk_29_method_65_code 0 = .ok (.iload_n 0, 1) := by decide +kernel
theorem d23_1 : decode jdk_29_method_65_code 1 = .ok (.iload_n 1, 1) := by decide +kernel
theorem d23_2 : decode jdk_29_method_65_code 2 = .ok (.if_icmp .lt 7, 3) := by decide +kernel
theorem d23_5 : decode jdk_29_method_65_code 5 = .ok (.iload_n 0, 1) := by decide +kernel
theorem d23_6 : decode jdk_29_method_65_code 6 = .ok (.goto 4, 3) := by decide +kernel
theorem d23_10 : decode jdk_29_method_65_code 10 = .ok (.ireturn, 1) := by decide +kernel
theorem ef_28 (m : MethodId) (x0 : Int32) (x1 : Int32) : entryFrame m #[(.int x0), (.int x1)] 2 = mkF m 0 #[.val (.int x0), .val (.int x1)] [] := by first | (simp [entryFrame, mkF, argsToLocals, Value.category]; done) | rfl
def Q_max23_0 (Z : State)  (h0 : Heap) (n0 : Nat) (v : Option Value) (h : Heap) (L : List Loc) : Prop := v = some (.int (10 : Int32)) ∧ Fr n0 L ∧ h = h0
set_option maxRecDepth 65536 in
set_option maxHeartbeats 40000000 in
theorem rm_max23_0 (l : Launch) (Z : State) (a0 : Array Value) (hw : ∀ d ∈ tables_1, d.before a0 Z = true) (ws : List Jvm.Cond)  (h0 : Heap) (n0 : Nat) (O0 : Old Z n0 h0) :
    MetFree l (⟨"java/lang/Math", "max", "(II)I"⟩ : MethodName) (head1 (Jvm.Cond.code (⟨"java/lang/Math", "max", "(II)I"⟩ : MethodName) jdk_29_method_65_code 2 (some .int) :: ws) ({ frames := 0, cells := 0, slots := 0, locals := 0 } : Room)) (fun a U => a = #[(.int (10 : Int32)), (.int (1 : Int32))] ∧ Z.Warmed39 U.vm ∧ U.heap = h0) (fun _ _ _ _ _ => True) (fun _ U o U' => ∃ v L, o = .returned v ∧ Q_max23_0 Z  h0 n0 v U'.heap L ∧ FrameEnd U o U' L ({ frames := 0, cells := 0, slots := 0, locals := 0 } : Room).cells ({ frames := 0, cells := 0, slots := 0, locals := 0 } : Room).slots) := by
  refine MetFree.of_bodySF (Jvm.Free.JP.mathPlain rfl (by decide +kernel)) hisR ?_
  intro p e s m args below meth c s₁ Bd hml0 hP hK
  have W := fun {d : Jvm.Cond} (i : Nat) (q : tables_1[i]? = some d) => hw d (List.mem_of_getElem? q)
  obtain ⟨rfl, hZ, hh⟩ := hP
  have hx := Bd.exec
  have hby := Bd.bytes
  have hml : c.maxLocals = 2 := hml0
  have hown : s.vm.findClass "java/lang/Math" = some m.cls := findClass_of_methodNamed Bd.named
  have hnm := (name_of_methodNamed Bd.named Bd.method).1
  have X0 : Stand p l e ({ frames := 0, cells := 0, slots := 0, locals := 0 } : Room) s m #[(.int (10 : Int32)), (.int (1 : Int32))] below meth c s₁ [] 0 0 := Stand.of_body Bd
  have e0 : s₁.heap = h0 := by rw [← hh, Bd.state]; rfl
  have N0 := Fr.nil n0
  have pre0 : ∀ t, Steps p.tables e below (s₁.setTop (mkF m 0 #[iv (10 : Int32), iv (1 : Int32)] [])) t → Steps p.tables e below (s₁.setTop (entryFrame m #[(.int (10 : Int32)), (.int (1 : Int32))] 2)) t := fun t k => castTop (ef_28 m (10 : Int32) (1 : Int32)) k
  have K0 : Keep h0 h0 [] := Keep.refl h0 []
  have pre1100 : ∀ t, Steps p.tables e below (s₁.setTop (mkF m 10 #[iv (10 : Int32), iv (1 : Int32)] [(.int (10 : Int32))])) t → Steps p.tables e below (s₁.setTop (entryFrame m #[(.int (10 : Int32)), (.int (1 : Int32))] 2)) t := fun t kt => by
    refine pre0 _ ?_
    show Steps p.tables e below (s₁.setTop (mkF m 0 #[iv (10 : Int32), iv (1 : Int32)] [])) _
    refine XS.iloadN X0.here hx rfl (hb hby d23_0) rfl ?_
    refine XS.iloadN X0.here hx rfl (hb hby d23_1) rfl ?_
    refine XS.icmpNo X0.here hx rfl (hb hby d23_2) rfl (XT.ii_lt_f (by decide)) ?_
    refine XS.iloadN X0.here hx rfl (hb hby d23_5) rfl ?_
    refine XS.goto X0.here hx rfl (pc0 := 6) (pc' := 10) rfl (hb hby d23_6) (by decide) (by decide) ?_
    exact kt
  obtain ⟨fs, hr, hrun, hended, hW, hsame⟩ := X0.leave (v := some (.int (10 : Int32))) (fun h => by rw [Bd.returns] at h; cases h)
  refine ⟨_, _, pre1100 _ (retI X0 hx Bd.returns (hb hby d23_10) hr), hrun, hended, _, _, rfl, ?_, ⟨_, rfl⟩, hW, hsame.mono (by decide) (by decide)⟩
  show Q_max23_0 Z  h0 n0 _ s₁.heap _
  rw [e0]
  exact ⟨rfl, N0, rfl⟩
theorem pd_29 : parseMethodDescriptor "(II)I" = some ⟨[.int, .int], some .int⟩ := by decide +kernel
theorem d22_52 : decode jdk_38_method_6_code 52 = .ok (.anewarray 7, 3) := by decide +kernel
theorem d22_55 : decode jdk_38_method_6_code 55 = .ok (.dup_x1, 1) := by decide +kernel
theorem d22_56 : decode jdk_38_method_6_code 56 = .ok (.putfield 9, 3) := by decide +kernel
theorem d22_59 : decode jdk_38_method_6_code 59 = .ok (.areturn, 1) := by decide +kernel
theorem pn_30 : plainName "java/util/ArrayList" = true := by first | (simp [plainName, overriddenIn]; done) | decide +kernel
theorem ef_31 (m : MethodId) (x0 : Addr) (x1 : Int32) : entryFrame m #[(.ref x0), (.int x1)] 4 = mkF m 0 #[.val (.ref x0), .val (.int x1), .unset, .unset] [] := by first | (simp [entryFrame, mkF, argsToLocals, Value.category]; done) | rfl
def Q_grow22_0 (Z : State) (ls : Addr) (ad : Addr) (kd : ClassId) (mc : Int32) (h0 : Heap) (n0 : Nat) (v : Option Value) (h : Heap) (L : List Loc) : Prop := ∃ (b1199 : Addr) (k1199 : ClassId), v = some (.ref b1199) ∧ Fr n0 L ∧ Keep h0 h [ls] ∧ Old Z n0 h ∧ Exa Z h ls "java/util/ArrayList" ∧ Fld Z h ls "java/util/ArrayList" "size" "I" (.int (0 : Int32)) ∧ Fld Z h ls "java/util/AbstractList" "modCount" "I" (.int (mc + (1 : Int32))) ∧ Arv Z h b1199 k1199 (.object "java/lang/Object") (10 : Int32) [.null, .null, .null, .null, .null, .null, .null, .null, .null, .null] .null ∧ Ovr Z k1199 "java/lang/Object" ∧ Exa Z h b1199 "[Ljava/lang/Object;" ∧ Fld Z h ls "java/util/ArrayList" "elementData" "[Ljava/lang/Object;" (.ref b1199) ∧ (h0.size ≤ b1199)
set_option maxRecDepth 65536 in
set_option maxHeartbeats 40000000 in
theorem rm_grow22_0 (l : Launch) (Z : State) (a0 : Array Value) (hw : ∀ d ∈ tables_1, d.before a0 Z = true) (ws : List Jvm.Cond) (ls : Addr) (ad : Addr) (kd : ClassId) (mc : Int32) (h0 : Heap) (n0 : Nat) (O0 : Old Z n0 h0) (G0 : Sta Z Z.heap "java/util/ArrayList" "DEFAULTCAPACITY_EMPTY_ELEMENTDATA" "[Ljava/lang/Object;" (.ref ad)) (G1 : Arv Z Z.heap ad kd (.object "java/lang/Object") (0 : Int32) [] .null) (g_ls : n0 ≤ ls) (Fi0 : Exa Z h0 ls "java/util/ArrayList") (Fi1 : Fld Z h0 ls "java/util/ArrayList" "elementData" "[Ljava/lang/Object;" (.ref ad)) (Fi2 : Fld Z h0 ls "java/util/ArrayList" "size" "I" (.int (0 : Int32))) (Fi3 : Fld Z h0 ls "java/util/AbstractList" "modCount" "I" (.int (mc + (1 : Int32)))) :
    MetFree l (⟨"java/util/ArrayList", "grow", "(I)[Ljava/lang/Object;"⟩ : MethodName) (head1 (Jvm.Cond.code (⟨"java/util/ArrayList", "grow", "(I)[Ljava/lang/Object;"⟩ : MethodName) jdk_38_method_6_code 4 (some (.array (.object "java/lang/Object"))) :: ws) ({ frames := 1, cells := 1, slots := 10, locals := 14 } : Room)) (fun a U => a = #[(.ref ls), (.int (1 : Int32))] ∧ Z.Warmed39 U.vm ∧ U.heap = h0) (fun _ _ _ _ _ => True) (fun _ U o U' => ∃ v L, o = .returned v ∧ Q_grow22_0 Z ls ad kd mc h0 n0 v U'.heap L ∧ FrameEnd U o U' L ({ frames := 1, cells := 1, slots := 10, locals := 14 } : Room).cells ({ frames := 1, cells := 1, slots := 10, locals := 14 } : Room).slots) := by
  refine MetFree.of_bodySF (plainFor_of_name pn_30) hisR ?_
  intro p e s m args below meth c s₁ Bd hml0 hP hK
  have W := fun {d : Jvm.Cond} (i : Nat) (q : tables_1[i]? = some d) => hw d (List.mem_of_getElem? q)
  obtain ⟨rfl, hZ, hh⟩ := hP
  have hx := Bd.exec
  have hby := Bd.bytes
  have hml : c.maxLocals = 4 := hml0
  have hown : s.vm.findClass "java/util/ArrayList" = some m.cls := findClass_of_methodNamed Bd.named
  have hnm := (name_of_methodNamed Bd.named Bd.method).1
  have X0 : Stand p l e ({ frames := 1, cells := 1, slots := 10, locals := 14 } : Room) s m #[(.ref ls), (.int (1 : Int32))] below meth c s₁ [] 0 0 := Stand.of_body Bd
  have e0 : s₁.heap = h0 := by rw [← hh, Bd.state]; rfl
  have N0 := Fr.nil n0
  have pre0 : ∀ t, Steps p.tables e below (s₁.setTop (mkF m 0 #[rv ls, iv (1 : Int32), .unset, .unset] [])) t → Steps p.tables e below (s₁.setTop (entryFrame m #[(.ref ls), (.int (1 : Int32))] 4)) t := fun t k => castTop (ef_31 m ls (1 : Int32)) k
  have K0 : Keep h0 h0 [ls] := Keep.refl h0 [ls]
  have pre1187 : ∀ t, Steps p.tables e below (s₁.setTop (mkF m 1 #[rv ls, iv (1 : Int32), .unset, .unset] [(.ref ls)])) t → Steps p.tables e below (s₁.setTop (entryFrame m #[(.ref ls), (.int (1 : Int32))] 4)) t := fun t kt => by
    refine pre0 _ ?_
    show Steps p.tables e below (s₁.setTop (mkF m 0 #[rv ls, iv (1 : Int32), .unset, .unset] [])) _
    refine XS.aloadN X0.here hx rfl (hb hby d22_0) rfl rfl ?_
    exact kt
  obtain ⟨T1188, X1188, e1188, st1188⟩ := getF X0 hx hZ hown (host := "") (Or.inl (W 78 rfl)) Via.refl e0 Fi1 (g := (mkF m 1 #[rv ls, iv (1 : Int32), .unset, .unset] [(.ref ls)])) rfl rfl (hb hby d22_1)
  have pre1189 : ∀ t, Steps p.tables e below (T1188.setTop (mkF m 4 #[rv ls, iv (1 : Int32), .unset, .unset] [(.ref ad)])) t → Steps p.tables e below (s₁.setTop (entryFrame m #[(.ref ls), (.int (1 : Int32))] 4)) t := fun t kt => pre1187 _ (st1188 _ kt)
  obtain ⟨c1190, Ar1190, -, S1190, M1190, -, -⟩ := id (G1.ext O0.2)
  have pre1191 : ∀ t, Steps p.tables e below (T1188.setTop (mkF m 11 #[rv ls, iv (1 : Int32), iv (0 : Int32), .unset] [(.ref ls)])) t → Steps p.tables e below (s₁.setTop (entryFrame m #[(.ref ls), (.int (1 : Int32))] 4)) t := fun t kt => by
    refine pre1189 _ ?_
    show Steps p.tables e below (T1188.setTop (mkF m 4 #[rv ls, iv (1 : Int32), .unset, .unset] [(.ref ad)])) _
    refine X1188.arraylength hx (by rw [e1188]; exact Ar1190.1) (State.isArrayOf_alike hZ.alike Ar1190.2.1) (g := (mkF m 4 #[rv ls, iv (1 : Int32), .unset, .unset] [(.ref ad)])) rfl rfl (hb hby d22_4) _ ?_
    rw [len_of S1190 M1190]
    refine XS.istoreN X1188.here hx rfl (hb hby d22_5) rfl (l' := #[rv ls, iv (1 : Int32), iv (0 : Int32), .unset]) rfl ?_
    refine XS.iloadN X1188.here hx rfl (hb hby d22_6) rfl ?_
    refine XS.ifNo X1188.here hx rfl (hb hby d22_7) rfl (XT.i0_gt_f (by decide)) ?_
    refine XS.aloadN X1188.here hx rfl (hb hby d22_10) rfl rfl ?_
    exact kt
  obtain ⟨T1192, X1192, e1192, st1192⟩ := getF X1188 hx hZ hown (host := "") (Or.inl (W 78 rfl)) Via.refl e1188 Fi1 (g := (mkF m 11 #[rv ls, iv (1 : Int32), iv (0 : Int32), .unset] [(.ref ls)])) rfl rfl (hb hby d22_11)
  have pre1193 : ∀ t, Steps p.tables e below (T1192.setTop (mkF m 14 #[rv ls, iv (1 : Int32), iv (0 : Int32), .unset] [(.ref ad)])) t → Steps p.tables e below (s₁.setTop (entryFrame m #[(.ref ls), (.int (1 : Int32))] 4)) t := fun t kt => pre1191 _ (st1192 _ kt)
  obtain ⟨T1194, X1194, e1194, st1194⟩ := getS2 X1192 hx hZ hown (host := "") (Or.inl (W 77 rfl)) Via.refl e1192 (G0.ext O0.2) (g := (mkF m 14 #[rv ls, iv (1 : Int32), iv (0 : Int32), .unset] [(.ref ad)])) rfl (hb hby d22_14)
  have pre1195 : ∀ t, Steps p.tables e below (T1194.setTop (mkF m 17 #[rv ls, iv (1 : Int32), iv (0 : Int32), .unset] [(.ref ad), (.ref ad)])) t → Steps p.tables e below (s₁.setTop (entryFrame m #[(.ref ls), (.int (1 : Int32))] 4)) t := fun t kt => pre1193 _ (st1194 _ kt)
  have pre1196 : ∀ t, Steps p.tables e below (T1194.setTop (mkF m 49 #[rv ls, iv (1 : Int32), iv (0 : Int32), .unset] [(.int (1 : Int32)), (.int (10 : Int32)), (.ref ls)])) t → Steps p.tables e below (s₁.setTop (entryFrame m #[(.ref ls), (.int (1 : Int32))] 4)) t := fun t kt => by
    refine pre1195 _ ?_
    show Steps p.tables e below (T1194.setTop (mkF m 17 #[rv ls, iv (1 : Int32), iv (0 : Int32), .unset] [(.ref ad), (.ref ad)])) _
    refine Jvm.RoadKit.acmp (g := (mkF m 17 #[rv ls, iv (1 : Int32), iv (0 : Int32), .unset] [(.ref ad), (.ref ad)])) X1194 hx rfl rfl rfl (pc0 := 17) (pc' := 45) (same := true) rfl (hb hby d22_17) rfl (decide_eq_true rfl) (by decide) (by decide) ?_
    refine XS.aloadN X1194.here hx rfl (hb hby d22_45) rfl rfl ?_
    refine XS.bipush X1194.here hx rfl (hb hby d22_46) ?_
    refine XS.iloadN X1194.here hx rfl (hb hby d22_48) rfl ?_
    exact kt
  obtain ⟨_, _, ⟨T1197, L1197, k1197, n1197⟩, -, X1197, ⟨Lc1197, hQ1197, l1197, y1197, z1197⟩, st1197⟩ := Jvm.LawKit.callS X1194 hx (y := (⟨"java/lang/Math", "max", "(II)I"⟩ : MethodName)) hown (mvT hZ (W 122 rfl)) (mvT hZ (W 123 rfl)) (mvT hZ (W 124 rfl)) (mvT hZ (W 125 rfl)) (by decide) (backOf (W := 1) (rm_max23_0 l Z a0 hw [] h0 n0 O0) hZ (W 125 rfl) (W 124 rfl) (by decide) (by decide)) (g := (mkF m 49 #[rv ls, iv (1 : Int32), iv (0 : Int32), .unset] [(.int (1 : Int32)), (.int (10 : Int32)), (.ref ls)])) rfl (by rw [hml]; rfl) (argsL := [(.int (10 : Int32)), (.int (1 : Int32))]) (rest := [(.ref ls)]) (lenOf pd_29 rfl) rfl (by show 2 * 0 + _ ≤ _; exact Nat.le_of_eq rfl) (hb hby d22_49) (fun _ _ => ⟨rfl, e1194, (by decide : 0 + 0 ≤ _), (by decide : 0 + 0 ≤ _)⟩)
  dsimp only [Pt.U, Pt.locs, Pt.cells, Pt.slots] at X1197 l1197 y1197 z1197 st1197 hQ1197
  replace l1197 := l1197.symm
  replace y1197 : 0 = k1197 := y1197.symm
  replace z1197 : 0 = n1197 := z1197.symm
  subst l1197 y1197 z1197
  obtain ⟨rfl, M1197, e1197⟩ := hQ1197
  have N1197 := Fr.app N0 M1197
  have pre1198 : ∀ t, Steps p.tables e below (T1197.setTop (mkF m 52 #[rv ls, iv (1 : Int32), iv (0 : Int32), .unset] [(.int (10 : Int32)), (.ref ls)])) t → Steps p.tables e below (s₁.setTop (entryFrame m #[(.ref ls), (.int (1 : Int32))] 4)) t := fun t kt => pre1196 _ (st1197 _ kt)
  obtain ⟨T1199, h1199, k1199, X1199, e1199, E1199, A1199, B1199, V1199, st1199⟩ := newRE X1197 hx hZ hown (W 126 rfl) (W 127 rfl) e1197 (g := (mkF m 52 #[rv ls, iv (1 : Int32), iv (0 : Int32), .unset] [(.int (10 : Int32)), (.ref ls)])) rfl (hb hby d22_52) rfl (by decide) (cap := 10) (by decide) (by decide) (by decide) (by decide) (ad := "[Ljava/lang/Object;") (by decide)
  obtain ⟨b1199, g1199⟩ : ∃ z, z = h0.size := ⟨_, rfl⟩
  rw [← g1199] at A1199 B1199 st1199
  have pre1200 : ∀ t, Steps p.tables e below (T1199.setTop (mkF m 55 #[rv ls, iv (1 : Int32), iv (0 : Int32), .unset] [(.ref b1199), (.ref ls)])) t → Steps p.tables e below (s₁.setTop (entryFrame m #[(.ref ls), (.int (1 : Int32))] 4)) t := fun t kt => pre1198 _ (st1199 _ kt)
  have O1199 := O0.ext E1199
  have K1199 : Keep h0 h1199 [ls] := K0.ext E1199
  have F1201 := Fi0.ext E1199
  have F1202 := Fi1.ext E1199
  have F1203 := Fi2.ext E1199
  have F1204 := Fi3.ext E1199
  have g_b1199 : n0 ≤ b1199 := Nat.le_trans (Nat.le_trans (Nat.le_of_eq O0.1.symm) O0.2.1) (Nat.le_of_eq g1199.symm)
  have sz_b1199 : h0.size ≤ b1199 := Nat.le_trans K0.1 (Nat.le_of_eq g1199.symm)
  have ne_ad_b1199 : ad ≠ b1199 := Nat.ne_of_lt (Nat.lt_of_lt_of_le (G1.ext O0.2).lt (Nat.le_of_eq g1199.symm))
  have ne_ls_b1199 : ls ≠ b1199 := Nat.ne_of_lt (Nat.lt_of_lt_of_le Fi0.lt (Nat.le_of_eq g1199.symm))
  have F1205 : Arv Z h1199 b1199 k1199 (.object "java/lang/Object") (10 : Int32) [.null, .null, .null, .null, .null, .null, .null, .null, .null, .null] .null := (Arv.new A1199 (by decide)).pad (pad_rep [] .null 10)
  have F1206 : Exa Z h1199 b1199 "[Ljava/lang/Object;" := B1199
  have pre1207 : ∀ t, Steps p.tables e below (T1199.setTop (mkF m 56 #[rv ls, iv (1 : Int32), iv (0 : Int32), .unset] [(.ref b1199), (.ref ls), (.ref b1199)])) t → Steps p.tables e below (s₁.setTop (entryFrame m #[(.ref ls), (.int (1 : Int32))] 4)) t := fun t kt => by
    refine pre1200 _ ?_
    show Steps p.tables e below (T1199.setTop (mkF m 55 #[rv ls, iv (1 : Int32), iv (0 : Int32), .unset] [(.ref b1199), (.ref ls)])) _
    refine XS.dupX1 X1199.here hx rfl (hb hby d22_55) rfl rfl rfl ?_
    exact kt
  obtain ⟨T1208, h1208, X1208, e1208, W1208, st1208⟩ := putF X1199 hx hZ hown (host := "") (Or.inl (W 78 rfl)) Via.refl e1199 F1202 F1201 (Or.inl (W 79 rfl)) (W 57 rfl) (ty := (.array (.object "java/lang/Object"))) (by decide) rfl rfl (g := (mkF m 56 #[rv ls, iv (1 : Int32), iv (0 : Int32), .unset] [(.ref b1199), (.ref ls), (.ref b1199)])) rfl rfl (hb hby d22_56)
  have pre1209 : ∀ t, Steps p.tables e below (T1208.setTop (mkF m 59 #[rv ls, iv (1 : Int32), iv (0 : Int32), .unset] [(.ref b1199)])) t → Steps p.tables e below (s₁.setTop (entryFrame m #[(.ref ls), (.int (1 : Int32))] 4)) t := fun t kt => pre1207 _ (st1208 _ kt)
  have N1208 := Fr.snoc X1208 N1197 g_ls
  have O1208 := O1199.wr W1208 g_ls
  have K1208 : Keep h0 h1208 [ls] := K1199.wr W1208 (Or.inl (List.mem_of_getElem? (i := 0) rfl))
  have F1210 := F1201.wr W1208
  have F1211 := F1203.other W1208 (Or.inr (slot_ne (Or.inl (W 106 rfl)) (Or.inl (W 79 rfl)) (by decide) (t := .int) (t' := (.array (.object "java/lang/Object"))) (by decide) (by decide)))
  have F1212 := F1204.other W1208 (Or.inr (slot_ne (Or.inl (W 76 rfl)) (Or.inl (W 79 rfl)) (by decide) (t := .int) (t' := (.array (.object "java/lang/Object"))) (by decide) (by decide)))
  have F1213 := F1205.other W1208 (fun q => ne_ls_b1199 q.symm)
  have F1214 := F1206.wr W1208
  have F1215 : Fld Z h1208 ls "java/util/ArrayList" "elementData" "[Ljava/lang/Object;" (.ref b1199) := F1202.same W1208
  obtain ⟨fs, hr, hrun, hended, hW, hsame⟩ := X1208.leave (v := some (.ref b1199)) (fun h => by rw [Bd.returns] at h; cases h)
  refine ⟨_, _, pre1209 _ (X1208.areturnOut hx rfl Bd.returns rfl (hb hby d22_59) hr), hrun, hended, _, _, rfl, ?_, ⟨_, rfl⟩, hW, hsame.mono (by decide) (by decide)⟩
  show Q_grow22_0 Z ls ad kd mc h0 n0 _ T1208.heap _
  rw [e1208]
  exact ⟨b1199, k1199, rfl, N1208, K1208, O1208, F1210, F1211, F1212, F1213, V1199, F1214, F1215, sz_b1199⟩
theorem pd_32 : parseMethodDescriptor "(I)[Ljava/lang/Object;" = some ⟨[.int], some (.array (.object "java/lang/Object"))⟩ := by decide +kernel
theorem d21_10 : decode jdk_38_method_7_code 10 = .ok (.areturn, 1) := by decide +kernel
theorem ef_33 (m : MethodId) (x0 : Addr) : entryFrame m #[(.ref x0)] 1 = mkF m 0 #[.val (.ref x0)] [] := by first | (simp [entryFrame, mkF, argsToLocals, Value.category]; done) | rfl
def Q_grow21_0 (Z : State) (ls : Addr) (ad : Addr) (kd : ClassId) (mc : Int32) (h0 : Heap) (n0 : Nat) (v : Option Value) (h : Heap) (L : List Loc) : Prop := ∃ (b1199_1238 : Addr) (k1199_1238 : ClassId), v = some (.ref b1199_1238) ∧ Fr n0 L ∧ Keep h0 h [ls] ∧ Old Z n0 h ∧ Exa Z h ls "java/util/ArrayList" ∧ Fld Z h ls "java/util/ArrayList" "size" "I" (.int (0 : Int32)) ∧ Fld Z h ls "java/util/AbstractList" "modCount" "I" (.int (mc + (1 : Int32))) ∧ Arv Z h b1199_1238 k1199_1238 (.object "java/lang/Object") (10 : Int32) [.null, .null, .null, .null, .null, .null, .null, .null, .null, .null] .null ∧ Ovr Z k1199_1238 "java/lang/Object" ∧ Exa Z h b1199_1238 "[Ljava/lang/Object;" ∧ Fld Z h ls "java/util/ArrayList" "elementData" "[Ljava/lang/Object;" (.ref b1199_1238) ∧ (h0.size ≤ b1199_1238)
set_option maxRecDepth 65536 in
set_option maxHeartbeats 40000000 in
theorem rm_grow21_0 (l : Launch) (Z : State) (a0 : Array Value) (hw : ∀ d ∈ tables_1, d.before a0 Z = true) (ws : List Jvm.Cond) (ls : Addr) (ad : Addr) (kd : ClassId) (mc : Int32) (h0 : Heap) (n0 : Nat) (O0 : Old Z n0 h0) (G0 : Sta Z Z.heap "java/util/ArrayList" "DEFAULTCAPACITY_EMPTY_ELEMENTDATA" "[Ljava/lang/Object;" (.ref ad)) (G1 : Arv Z Z.heap ad kd (.object "java/lang/Object") (0 : Int32) [] .null) (g_ls : n0 ≤ ls) (Fi0 : Exa Z h0 ls "java/util/ArrayList") (Fi1 : Fld Z h0 ls "java/util/ArrayList" "elementData" "[Ljava/lang/Object;" (.ref ad)) (Fi2 : Fld Z h0 ls "java/util/ArrayList" "size" "I" (.int (0 : Int32))) (Fi3 : Fld Z h0 ls "java/util/AbstractList" "modCount" "I" (.int (mc + (1 : Int32)))) :
    MetFree l (⟨"java/util/ArrayList", "grow", "()[Ljava/lang/Object;"⟩ : MethodName) (head1 (Jvm.Cond.code (⟨"java/util/ArrayList", "grow", "()[Ljava/lang/Object;"⟩ : MethodName) jdk_38_method_7_code 1 (some (.array (.object "java/lang/Object"))) :: ws) ({ frames := 2, cells := 1, slots := 10, locals := 29 } : Room)) (fun a U => a = #[(.ref ls)] ∧ Z.Warmed39 U.vm ∧ U.heap = h0) (fun _ _ _ _ _ => True) (fun _ U o U' => ∃ v L, o = .returned v ∧ Q_grow21_0 Z ls ad kd mc h0 n0 v U'.heap L ∧ FrameEnd U o U' L ({ frames := 2, cells := 1, slots := 10, locals := 29 } : Room).cells ({ frames := 2, cells := 1, slots := 10, locals := 29 } : Room).slots) := by
  refine MetFree.of_bodySF (plainFor_of_name pn_30) hisR ?_
  intro p e s m args below meth c s₁ Bd hml0 hP hK
  have W := fun {d : Jvm.Cond} (i : Nat) (q : tables_1[i]? = some d) => hw d (List.mem_of_getElem? q)
  obtain ⟨rfl, hZ, hh⟩ := hP
  have hx := Bd.exec
  have hby := Bd.bytes
  have hml : c.maxLocals = 1 := hml0
  have hown : s.vm.findClass "java/util/ArrayList" = some m.cls := findClass_of_methodNamed Bd.named
  have hnm := (name_of_methodNamed Bd.named Bd.method).1
  have X0 : Stand p l e ({ frames := 2, cells := 1, slots := 10, locals := 29 } : Room) s m #[(.ref ls)] below meth c s₁ [] 0 0 := Stand.of_body Bd
  have e0 : s₁.heap = h0 := by rw [← hh, Bd.state]; rfl
  have N0 := Fr.nil n0
  have pre0 : ∀ t, Steps p.tables e below (s₁.setTop (mkF m 0 #[rv ls] [])) t → Steps p.tables e below (s₁.setTop (entryFrame m #[(.ref ls)] 1)) t := fun t k => castTop (ef_33 m ls) k
  have K0 : Keep h0 h0 [ls] := Keep.refl h0 [ls]
  have pre1234 : ∀ t, Steps p.tables e below (s₁.setTop (mkF m 2 #[rv ls] [(.ref ls), (.ref ls)])) t → Steps p.tables e below (s₁.setTop (entryFrame m #[(.ref ls)] 1)) t := fun t kt => by
    refine pre0 _ ?_
    show Steps p.tables e below (s₁.setTop (mkF m 0 #[rv ls] [])) _
    refine XS.aloadN X0.here hx rfl (hb hby d21_0) rfl rfl ?_
    refine XS.aloadN X0.here hx rfl (hb hby d21_1) rfl rfl ?_
    exact kt
  obtain ⟨T1235, X1235, e1235, st1235⟩ := getF X0 hx hZ hown (host := "") (Or.inl (W 105 rfl)) Via.refl e0 Fi2 (g := (mkF m 2 #[rv ls] [(.ref ls), (.ref ls)])) rfl rfl (hb hby d21_2)
  have pre1236 : ∀ t, Steps p.tables e below (T1235.setTop (mkF m 5 #[rv ls] [(.int (0 : Int32)), (.ref ls)])) t → Steps p.tables e below (s₁.setTop (entryFrame m #[(.ref ls)] 1)) t := fun t kt => pre1234 _ (st1235 _ kt)
  have pre1237 : ∀ t, Steps p.tables e below (T1235.setTop (mkF m 7 #[rv ls] [(.int (1 : Int32)), (.ref ls)])) t → Steps p.tables e below (s₁.setTop (entryFrame m #[(.ref ls)] 1)) t := fun t kt => by
    refine pre1236 _ ?_
    show Steps p.tables e below (T1235.setTop (mkF m 5 #[rv ls] [(.int (0 : Int32)), (.ref ls)])) _
    refine XS.iconst X1235.here hx rfl (hb hby d21_5) ?_
    refine XS.iadd X1235.here hx rfl (hb hby d21_6) rfl ?_
    show  Steps p.tables e below (T1235.setTop (mkF m 7 #[rv ls] [(.int ((0 : Int32) + (1 : Int32))), (.ref ls)])) _
    rw [(by decide : (((0 : Int32) + (1 : Int32)) : Int32) = (1 : Int32))]
    exact kt
  obtain ⟨cq1238, q1238, q1238'⟩ := (Fi0).cell
  obtain ⟨_, _, ⟨T1238, L1238, k1238, n1238⟩, -, X1238, ⟨Lc1238, hQ1238, l1238, y1238, z1238⟩, st1238⟩ := X1235.privateBack hx (y := (⟨"java/util/ArrayList", "grow", "(I)[Ljava/lang/Object;"⟩ : MethodName)) hown (mvT hZ (W 117 rfl)) (mvT hZ (W 118 rfl)) (mvT hZ (W 120 rfl)) (Cond.privateMethod_at (mvP hZ (W 119 rfl) (args := #[]))) (mvT hZ (W 121 rfl)) (by decide) (backOf (W := 0) (rm_grow22_0 l Z a0 hw [] ls ad kd mc h0 n0 O0 G0 G1 g_ls Fi0 Fi1 Fi2 Fi3) hZ (W 121 rfl) (W 58 rfl) (by decide) (by decide)) (g := (mkF m 7 #[rv ls] [(.int (1 : Int32)), (.ref ls)])) rfl (by rw [hml]; rfl) (Steps.refl _) (a := ls) (by rw [e1235]; exact q1238) q1238' (argsL := [(.int (1 : Int32))]) (rest := []) (lenOf pd_32 rfl) rfl (by show 2 * 0 + _ ≤ _; exact Nat.le_of_eq rfl) (hb hby d21_7) (fun _ _ => ⟨rfl, e1235, (by decide : 0 + 1 ≤ _), (by decide : 0 + 10 ≤ _)⟩)
  dsimp only [Pt.U, Pt.locs, Pt.cells, Pt.slots] at X1238 l1238 y1238 z1238 st1238 hQ1238
  replace l1238 := l1238.symm
  replace y1238 : 1 = k1238 := y1238.symm
  replace z1238 : 10 = n1238 := z1238.symm
  subst l1238 y1238 z1238
  obtain ⟨b1199_1238, k1199_1238, rfl, M1238, Kc1238, O1238, J1238_0, J1238_1, J1238_2, J1238_3, J1238_4, J1238_5, J1238_6, P1238_0⟩ := hQ1238
  obtain ⟨h1238, e1238⟩ : ∃ z, T1238.heap = z := ⟨_, rfl⟩
  rw [e1238] at Kc1238 O1238 J1238_0 J1238_1 J1238_2 J1238_3 J1238_5 J1238_6
  try rw [e1238] at P1238_0
  have N1238 := Fr.app N0 M1238
  have K1238 : Keep h0 h1238 [ls] := K0.trans Kc1238 (own_all1 (Or.inl (List.mem_of_getElem? (i := 0) rfl)))
  have pre1239 : ∀ t, Steps p.tables e below (T1238.setTop (mkF m 10 #[rv ls] [(.ref b1199_1238)])) t → Steps p.tables e below (s₁.setTop (entryFrame m #[(.ref ls)] 1)) t := fun t kt => pre1237 _ (st1238.trans kt)
  have sz_b1199_1238 : h0.size ≤ b1199_1238 := Nat.le_trans K0.1 P1238_0
  have ne_ad_b1199_1238 : ad ≠ b1199_1238 := Nat.ne_of_lt (Nat.lt_of_lt_of_le (G1.ext O0.2).lt P1238_0)
  have ne_ls_b1199_1238 : ls ≠ b1199_1238 := Nat.ne_of_lt (Nat.lt_of_lt_of_le Fi0.lt P1238_0)
  have g_b1199_1238 : n0 ≤ b1199_1238 := Nat.le_trans (Nat.le_trans (Nat.le_of_eq O0.1.symm) O0.2.1) sz_b1199_1238
  obtain ⟨fs, hr, hrun, hended, hW, hsame⟩ := X1238.leave (v := some (.ref b1199_1238)) (fun h => by rw [Bd.returns] at h; cases h)
  refine ⟨_, _, pre1239 _ (X1238.areturnOut hx rfl Bd.returns rfl (hb hby d21_10) hr), hrun, hended, _, _, rfl, ?_, ⟨_, rfl⟩, hW, hsame.mono (by decide) (by decide)⟩
  show Q_grow21_0 Z ls ad kd mc h0 n0 _ T1238.heap _
  rw [e1238]
  exact ⟨b1199_1238, k1199_1238, rfl, N1238, K1238, O1238, J1238_0, J1238_1, J1238_2, J1238_3, J1238_4, J1238_5, J1238_6, sz_b1199_1238⟩
theorem pd_34 : parseMethodDescriptor "()[Ljava/lang/Object;" = some ⟨[], some (.array (.object "java/lang/Object"))⟩ := by decide +kernel
theorem d20_10 : decode jdk_38_method_24_code 10 = .ok (.astore_n 2, 1) := by decide +kernel
theorem d20_11 : decode jdk_38_method_24_code 11 = .ok (.aload_n 2, 1) := by decide +kernel
theorem d20_12 : decode jdk_38_method_24_code 12 = .ok (.iload_n 3, 1) := by decide +kernel
theorem d20_13 : decode jdk_38_method_24_code 13 = .ok (.aload_n 1, 1) := by decide +kernel
theorem d20_14 : decode jdk_38_method_24_code 14 = .ok (.aastore, 1) := by decide +kernel
theorem d20_15 : decode jdk_38_method_24_code 15 = .ok (.aload_n 0, 1) := by decide +kernel
theorem d20_16 : decode jdk_38_method_24_code 16 = .ok (.iload_n 3, 1) := by decide +kernel
theorem d20_17 : decode jdk_38_method_24_code 17 = .ok (.iconst 1, 1) := by decide +kernel
theorem d20_18 : decode jdk_38_method_24_code 18 = .ok (.iadd, 1) := by decide +kernel
theorem d20_19 : decode jdk_38_method_24_code 19 = .ok (.putfield 48, 3) := by decide +kernel
theorem d20_22 : decode jdk_38_method_24_code 22 = .ok (.return_, 1) := by decide +kernel
theorem ef_35 (m : MethodId) (x0 : Addr) (x1 : Addr) (x2 : Addr) (x3 : Int32) : entryFrame m #[(.ref x0), (.ref x1), (.ref x2), (.int x3)] 4 = mkF m 0 #[.val (.ref x0), .val (.ref x1), .val (.ref x2), .val (.int x3)] [] := by first | (simp [entryFrame, mkF, argsToLocals, Value.category]; done) | rfl
def Q_add20_0 (Z : State) (ls : Addr) (so : Addr) (ad : Addr) (kd : ClassId) (mc : Int32) (h0 : Heap) (n0 : Nat) (v : Option Value) (h : Heap) (L : List Loc) : Prop := ∃ (k1199_1335 : ClassId) (b1199_1335 : Addr), v = none ∧ Fr n0 L ∧ Keep h0 h [ls] ∧ Old Z n0 h ∧ Exa Z h ls "java/util/ArrayList" ∧ Fld Z h ls "java/util/AbstractList" "modCount" "I" (.int (mc + (1 : Int32))) ∧ Ovr Z k1199_1335 "java/lang/Object" ∧ Exa Z h b1199_1335 "[Ljava/lang/Object;" ∧ Fld Z h ls "java/util/ArrayList" "elementData" "[Ljava/lang/Object;" (.ref b1199_1335) ∧ Arv Z h b1199_1335 k1199_1335 (.object "java/lang/Object") (10 : Int32) [(.ref so), .null, .null, .null, .null, .null, .null, .null, .null, .null] .null ∧ Fld Z h ls "java/util/ArrayList" "size" "I" (.int (1 : Int32)) ∧ (h0.size ≤ b1199_1335)
set_option maxRecDepth 65536 in
set_option maxHeartbeats 40000000 in
theorem rm_add20_0 (l : Launch) (Z : State) (a0 : Array Value) (hw : ∀ d ∈ tables_1, d.before a0 Z = true) (ws : List Jvm.Cond) (ls : Addr) (so : Addr) (ad : Addr) (kd : ClassId) (mc : Int32) (h0 : Heap) (n0 : Nat) (O0 : Old Z n0 h0) (G0 : Sta Z Z.heap "java/util/ArrayList" "DEFAULTCAPACITY_EMPTY_ELEMENTDATA" "[Ljava/lang/Object;" (.ref ad)) (G1 : Arv Z Z.heap ad kd (.object "java/lang/Object") (0 : Int32) [] .null) (g_ls : n0 ≤ ls) (Fi0 : Exa Z h0 ls "java/util/ArrayList") (Fi1 : Fld Z h0 ls "java/util/ArrayList" "elementData" "[Ljava/lang/Object;" (.ref ad)) (Fi2 : Fld Z h0 ls "java/util/ArrayList" "size" "I" (.int (0 : Int32))) (Fi3 : Exa Z h0 so "java/lang/String") (Fi4 : Fld Z h0 ls "java/util/AbstractList" "modCount" "I" (.int (mc + (1 : Int32)))) :
    MetFree l (⟨"java/util/ArrayList", "add", "(Ljava/lang/Object;[Ljava/lang/Object;I)V"⟩ : MethodName) (head1 (Jvm.Cond.code (⟨"java/util/ArrayList", "add", "(Ljava/lang/Object;[Ljava/lang/Object;I)V"⟩ : MethodName) jdk_38_method_24_code 4 none :: ws) ({ frames := 3, cells := 1, slots := 10, locals := 41 } : Room)) (fun a U => a = #[(.ref ls), (.ref so), (.ref ad), (.int (0 : Int32))] ∧ Z.Warmed39 U.vm ∧ U.heap = h0) (fun _ _ _ _ _ => True) (fun _ U o U' => ∃ v L, o = .returned v ∧ Q_add20_0 Z ls so ad kd mc h0 n0 v U'.heap L ∧ FrameEnd U o U' L ({ frames := 3, cells := 1, slots := 10, locals := 41 } : Room).cells ({ frames := 3, cells := 1, slots := 10, locals := 41 } : Room).slots) := by
  refine MetFree.of_bodySF (plainFor_of_name pn_30) hisR ?_
  intro p e s m args below meth c s₁ Bd hml0 hP hK
  have W := fun {d : Jvm.Cond} (i : Nat) (q : tables_1[i]? = some d) => hw d (List.mem_of_getElem? q)
  obtain ⟨rfl, hZ, hh⟩ := hP
  have hx := Bd.exec
  have hby := Bd.bytes
  have hml : c.maxLocals = 4 := hml0
  have hown : s.vm.findClass "java/util/ArrayList" = some m.cls := findClass_of_methodNamed Bd.named
  have hnm := (name_of_methodNamed Bd.named Bd.method).1
  have X0 : Stand p l e ({ frames := 3, cells := 1, slots := 10, locals := 41 } : Room) s m #[(.ref ls), (.ref so), (.ref ad), (.int (0 : Int32))] below meth c s₁ [] 0 0 := Stand.of_body Bd
  have e0 : s₁.heap = h0 := by rw [← hh, Bd.state]; rfl
  have N0 := Fr.nil n0
  have pre0 : ∀ t, Steps p.tables e below (s₁.setTop (mkF m 0 #[rv ls, rv so, rv ad, iv (0 : Int32)] [])) t → Steps p.tables e below (s₁.setTop (entryFrame m #[(.ref ls), (.ref so), (.ref ad), (.int (0 : Int32))] 4)) t := fun t k => castTop (ef_35 m ls so ad (0 : Int32)) k
  have K0 : Keep h0 h0 [ls] := Keep.refl h0 [ls]
  have pre1333 : ∀ t, Steps p.tables e below (s₁.setTop (mkF m 2 #[rv ls, rv so, rv ad, iv (0 : Int32)] [(.ref ad), (.int (0 : Int32))])) t → Steps p.tables e below (s₁.setTop (entryFrame m #[(.ref ls), (.ref so), (.ref ad), (.int (0 : Int32))] 4)) t := fun t kt => by
    refine pre0 _ ?_
    show Steps p.tables e below (s₁.setTop (mkF m 0 #[rv ls, rv so, rv ad, iv (0 : Int32)] [])) _
    refine XS.iloadN X0.here hx rfl (hb hby d20_0) rfl ?_
    refine XS.aloadN X0.here hx rfl (hb hby d20_1) rfl rfl ?_
    exact kt
  obtain ⟨c1332, Ar1332, -, S1332, M1332, -, -⟩ := id (G1.ext O0.2)
  have pre1334 : ∀ t, Steps p.tables e below (s₁.setTop (mkF m 7 #[rv ls, rv so, rv ad, iv (0 : Int32)] [(.ref ls)])) t → Steps p.tables e below (s₁.setTop (entryFrame m #[(.ref ls), (.ref so), (.ref ad), (.int (0 : Int32))] 4)) t := fun t kt => by
    refine pre1333 _ ?_
    show Steps p.tables e below (s₁.setTop (mkF m 2 #[rv ls, rv so, rv ad, iv (0 : Int32)] [(.ref ad), (.int (0 : Int32))])) _
    refine X0.arraylength hx (by rw [e0]; exact Ar1332.1) (State.isArrayOf_alike hZ.alike Ar1332.2.1) (g := (mkF m 2 #[rv ls, rv so, rv ad, iv (0 : Int32)] [(.ref ad), (.int (0 : Int32))])) rfl rfl (hb hby d20_2) _ ?_
    rw [len_of S1332 M1332]
    refine XS.icmpNo X0.here hx rfl (hb hby d20_3) rfl (XT.ii_ne_f (by decide)) ?_
    refine XS.aloadN X0.here hx rfl (hb hby d20_6) rfl rfl ?_
    exact kt
  obtain ⟨cq1335, q1335, q1335'⟩ := (Fi0).cell
  obtain ⟨_, _, ⟨T1335, L1335, k1335, n1335⟩, -, X1335, ⟨Lc1335, hQ1335, l1335, y1335, z1335⟩, st1335⟩ := X0.privateBack hx (y := (⟨"java/util/ArrayList", "grow", "()[Ljava/lang/Object;"⟩ : MethodName)) hown (mvT hZ (W 112 rfl)) (mvT hZ (W 113 rfl)) (mvT hZ (W 115 rfl)) (Cond.privateMethod_at (mvP hZ (W 114 rfl) (args := #[]))) (mvT hZ (W 116 rfl)) (by decide) (backOf (W := 0) (rm_grow21_0 l Z a0 hw [] ls ad kd mc h0 n0 O0 G0 G1 g_ls Fi0 Fi1 Fi2 Fi4) hZ (W 116 rfl) (W 58 rfl) (by decide) (by decide)) (g := (mkF m 7 #[rv ls, rv so, rv ad, iv (0 : Int32)] [(.ref ls)])) rfl (by rw [hml]; rfl) (Steps.refl _) (a := ls) (by rw [e0]; exact q1335) q1335' (argsL := []) (rest := []) (lenOf pd_34 rfl) rfl (by show 2 * 0 + _ ≤ _; exact Nat.le_of_eq rfl) (hb hby d20_7) (fun _ _ => ⟨rfl, e0, (by decide : 0 + 1 ≤ _), (by decide : 0 + 10 ≤ _)⟩)
  dsimp only [Pt.U, Pt.locs, Pt.cells, Pt.slots] at X1335 l1335 y1335 z1335 st1335 hQ1335
  replace l1335 := l1335.symm
  replace y1335 : 1 = k1335 := y1335.symm
  replace z1335 : 10 = n1335 := z1335.symm
  subst l1335 y1335 z1335
  obtain ⟨b1199_1335, k1199_1335, rfl, M1335, Kc1335, O1335, J1335_0, J1335_1, J1335_2, J1335_3, J1335_4, J1335_5, J1335_6, P1335_0⟩ := hQ1335
  obtain ⟨h1335, e1335⟩ : ∃ z, T1335.heap = z := ⟨_, rfl⟩
  rw [e1335] at Kc1335 O1335 J1335_0 J1335_1 J1335_2 J1335_3 J1335_5 J1335_6
  try rw [e1335] at P1335_0
  have N1335 := Fr.app N0 M1335
  have K1335 : Keep h0 h1335 [ls] := K0.trans Kc1335 (own_all1 (Or.inl (List.mem_of_getElem? (i := 0) rfl)))
  have pre1336 : ∀ t, Steps p.tables e below (T1335.setTop (mkF m 10 #[rv ls, rv so, rv ad, iv (0 : Int32)] [(.ref b1199_1335)])) t → Steps p.tables e below (s₁.setTop (entryFrame m #[(.ref ls), (.ref so), (.ref ad), (.int (0 : Int32))] 4)) t := fun t kt => pre1334 _ (st1335.trans kt)
  have F1337 := Fi3.keep Kc1335
  have sz_b1199_1335 : h0.size ≤ b1199_1335 := Nat.le_trans K0.1 P1335_0
  have ne_ad_b1199_1335 : ad ≠ b1199_1335 := Nat.ne_of_lt (Nat.lt_of_lt_of_le (G1.ext O0.2).lt P1335_0)
  have ne_ls_b1199_1335 : ls ≠ b1199_1335 := Nat.ne_of_lt (Nat.lt_of_lt_of_le Fi0.lt P1335_0)
  have ne_so_b1199_1335 : so ≠ b1199_1335 := Nat.ne_of_lt (Nat.lt_of_lt_of_le Fi3.lt P1335_0)
  have g_b1199_1335 : n0 ≤ b1199_1335 := Nat.le_trans (Nat.le_trans (Nat.le_of_eq O0.1.symm) O0.2.1) sz_b1199_1335
  have pre1338 : ∀ t, Steps p.tables e below (T1335.setTop (mkF m 14 #[rv ls, rv so, rv b1199_1335, iv (0 : Int32)] [(.ref so), (.int (0 : Int32)), (.ref b1199_1335)])) t → Steps p.tables e below (s₁.setTop (entryFrame m #[(.ref ls), (.ref so), (.ref ad), (.int (0 : Int32))] 4)) t := fun t kt => by
    refine pre1336 _ ?_
    show Steps p.tables e below (T1335.setTop (mkF m 10 #[rv ls, rv so, rv ad, iv (0 : Int32)] [(.ref b1199_1335)])) _
    refine XS.astoreN X1335.here hx rfl (hb hby d20_10) rfl rfl (l' := #[rv ls, rv so, rv b1199_1335, iv (0 : Int32)]) rfl ?_
    refine XS.aloadN X1335.here hx rfl (hb hby d20_11) rfl rfl ?_
    refine XS.iloadN X1335.here hx rfl (hb hby d20_12) rfl ?_
    refine XS.aloadN X1335.here hx rfl (hb hby d20_13) rfl rfl ?_
    exact kt
  obtain ⟨c1339, Ar1339, q1339, S1339, M1339, H1339, G1339⟩ := id J1335_3
  have i1339 : ¬ ((0 : Int32) < 0 ∨ c1339.slots.size ≤ ((0 : Int32)).toNatClampNeg) := inb_of S1339 ⟨by decide, by decide⟩
  obtain ⟨T1340, h1340, X1340, e1340, W1340, st1340⟩ := stR X1335 hx hZ e1335 Ar1339 (j := (0 : Int32)) i1339 rfl (Sto.ofV Ar1339 q1339 J1335_4 (Ins.of_exa F1337 (W 128 rfl))) (g := (mkF m 14 #[rv ls, rv so, rv b1199_1335, iv (0 : Int32)] [(.ref so), (.int (0 : Int32)), (.ref b1199_1335)])) rfl rfl (hb hby d20_14)
  have pre1341 : ∀ t, Steps p.tables e below (T1340.setTop (mkF m 15 #[rv ls, rv so, rv b1199_1335, iv (0 : Int32)] [])) t → Steps p.tables e below (s₁.setTop (entryFrame m #[(.ref ls), (.ref so), (.ref ad), (.int (0 : Int32))] 4)) t := fun t kt => pre1338 _ (st1340 _ kt)
  have N1340 := Fr.snoc X1340 N1335 g_b1199_1335
  have O1340 := O1335.wr W1340 g_b1199_1335
  have K1340 : Keep h0 h1340 [ls] := K1335.wr W1340 (Or.inr sz_b1199_1335)
  have F1342 := F1337.wr W1340
  have F1343 := J1335_0.wr W1340
  have F1344 := J1335_1.other W1340 (Or.inl ne_ls_b1199_1335)
  have F1345 := J1335_2.other W1340 (Or.inl ne_ls_b1199_1335)
  have F1346 := J1335_5.wr W1340
  have F1347 := J1335_6.other W1340 (Or.inl ne_ls_b1199_1335)
  have F1348 : Arv Z h1340 b1199_1335 k1199_1335 (.object "java/lang/Object") (10 : Int32) [(.ref so), .null, .null, .null, .null, .null, .null, .null, .null, .null] .null := Arv.set Ar1339 q1339 S1339 M1339 H1339 G1339 rfl W1340 0 rfl (Nat.le_of_ble_eq_true rfl)
  have pre1349 : ∀ t, Steps p.tables e below (T1340.setTop (mkF m 19 #[rv ls, rv so, rv b1199_1335, iv (0 : Int32)] [(.int (1 : Int32)), (.ref ls)])) t → Steps p.tables e below (s₁.setTop (entryFrame m #[(.ref ls), (.ref so), (.ref ad), (.int (0 : Int32))] 4)) t := fun t kt => by
    refine pre1341 _ ?_
    show Steps p.tables e below (T1340.setTop (mkF m 15 #[rv ls, rv so, rv b1199_1335, iv (0 : Int32)] [])) _
    refine XS.aloadN X1340.here hx rfl (hb hby d20_15) rfl rfl ?_
    refine XS.iloadN X1340.here hx rfl (hb hby d20_16) rfl ?_
    refine XS.iconst X1340.here hx rfl (hb hby d20_17) ?_
    refine XS.iadd X1340.here hx rfl (hb hby d20_18) rfl ?_
    show  Steps p.tables e below (T1340.setTop (mkF m 19 #[rv ls, rv so, rv b1199_1335, iv (0 : Int32)] [(.int ((0 : Int32) + (1 : Int32))), (.ref ls)])) _
    rw [(by decide : (((0 : Int32) + (1 : Int32)) : Int32) = (1 : Int32))]
    exact kt
  obtain ⟨T1350, h1350, X1350, e1350, W1350, st1350⟩ := putF X1340 hx hZ hown (host := "") (Or.inl (W 105 rfl)) Via.refl e1340 F1344 F1343 (Or.inl (W 106 rfl)) (W 57 rfl) (ty := .int) (by decide) rfl rfl (g := (mkF m 19 #[rv ls, rv so, rv b1199_1335, iv (0 : Int32)] [(.int (1 : Int32)), (.ref ls)])) rfl rfl (hb hby d20_19)
  have pre1351 : ∀ t, Steps p.tables e below (T1350.setTop (mkF m 22 #[rv ls, rv so, rv b1199_1335, iv (0 : Int32)] [])) t → Steps p.tables e below (s₁.setTop (entryFrame m #[(.ref ls), (.ref so), (.ref ad), (.int (0 : Int32))] 4)) t := fun t kt => pre1349 _ (st1350 _ kt)
  have N1350 := Fr.snoc X1350 N1340 g_ls
  have O1350 := O1340.wr W1350 g_ls
  have K1350 : Keep h0 h1350 [ls] := K1340.wr W1350 (Or.inl (List.mem_of_getElem? (i := 0) rfl))
  have F1352 := F1342.wr W1350
  have F1353 := F1343.wr W1350
  have F1354 := F1345.other W1350 (Or.inr (slot_ne (Or.inl (W 76 rfl)) (Or.inl (W 106 rfl)) (by decide) (t := .int) (t' := .int) (by decide) (by decide)))
  have F1355 := F1346.wr W1350
  have F1356 := F1347.other W1350 (Or.inr (slot_ne (Or.inl (W 79 rfl)) (Or.inl (W 106 rfl)) (by decide) (t := (.array (.object "java/lang/Object"))) (t' := .int) (by decide) (by decide)))
  have F1357 := F1348.other W1350 (fun q => ne_ls_b1199_1335 q.symm)
  have F1358 : Fld Z h1350 ls "java/util/ArrayList" "size" "I" (.int (1 : Int32)) := F1344.same W1350
  obtain ⟨fs, hr, hrun, hended, hW, hsame⟩ := X1350.leave (v := none) (fun _ => rfl)
  refine ⟨_, _, pre1351 _ (X1350.returnOut hx Bd.returns (hb hby d20_22) hr), hrun, hended, _, _, rfl, ?_, ⟨_, rfl⟩, hW, hsame.mono (by decide) (by decide)⟩
  show Q_add20_0 Z ls so ad kd mc h0 n0 _ T1350.heap _
  rw [e1350]
  exact ⟨k1199_1335, b1199_1335, rfl, N1350, K1350, O1350, F1353, F1354, J1335_4, F1355, F1356, F1357, F1358, sz_b1199_1335⟩
theorem pd_36 : parseMethodDescriptor "(Ljava/lang/Object;[Ljava/lang/Object;I)V" = some ⟨[(.object "java/lang/Object"), (.array (.object "java/lang/Object")), .int], none⟩ := by decide +kernel
theorem d19_23 : decode jdk_38_method_25_code 23 = .ok (.iconst 1, 1) := by decide +kernel
theorem d19_24 : decode jdk_38_method_25_code 24 = .ok (.ireturn, 1) := by decide +kernel
theorem ef_37 (m : MethodId) (x0 : Addr) (x1 : Addr) : entryFrame m #[(.ref x0), (.ref x1)] 2 = mkF m 0 #[.val (.ref x0), .val (.ref x1)] [] := by first | (simp [entryFrame, mkF, argsToLocals, Value.category]; done) | rfl
def Q_add19_0 (Z : State) (ls : Addr) (so : Addr) (ad : Addr) (kd : ClassId) (mc : Int32) (h0 : Heap) (n0 : Nat) (v : Option Value) (h : Heap) (L : List Loc) : Prop := ∃ (k1199_1425 : ClassId) (b1199_1425 : Addr), v = some (.int (1 : Int32)) ∧ Fr n0 L ∧ Keep h0 h [ls] ∧ Old Z n0 h ∧ Exa Z h ls "java/util/ArrayList" ∧ Fld Z h ls "java/util/AbstractList" "modCount" "I" (.int (mc + (1 : Int32))) ∧ Ovr Z k1199_1425 "java/lang/Object" ∧ Exa Z h b1199_1425 "[Ljava/lang/Object;" ∧ Fld Z h ls "java/util/ArrayList" "elementData" "[Ljava/lang/Object;" (.ref b1199_1425) ∧ Arv Z h b1199_1425 k1199_1425 (.object "java/lang/Object") (10 : Int32) [(.ref so), .null, .null, .null, .null, .null, .null, .null, .null, .null] .null ∧ Fld Z h ls "java/util/ArrayList" "size" "I" (.int (1 : Int32)) ∧ (h0.size ≤ b1199_1425)
set_option maxRecDepth 65536 in
set_option maxHeartbeats 40000000 in
theorem rm_add19_0 (l : Launch) (Z : State) (a0 : Array Value) (hw : ∀ d ∈ tables_1, d.before a0 Z = true) (ws : List Jvm.Cond) (ls : Addr) (so : Addr) (ad : Addr) (kd : ClassId) (mc : Int32) (h0 : Heap) (n0 : Nat) (O0 : Old Z n0 h0) (G0 : Sta Z Z.heap "java/util/ArrayList" "DEFAULTCAPACITY_EMPTY_ELEMENTDATA" "[Ljava/lang/Object;" (.ref ad)) (G1 : Arv Z Z.heap ad kd (.object "java/lang/Object") (0 : Int32) [] .null) (g_ls : n0 ≤ ls) (Fi0 : Exa Z h0 ls "java/util/ArrayList") (Fi1 : Fld Z h0 ls "java/util/AbstractList" "modCount" "I" (.int mc)) (Fi2 : Fld Z h0 ls "java/util/ArrayList" "elementData" "[Ljava/lang/Object;" (.ref ad)) (Fi3 : Fld Z h0 ls "java/util/ArrayList" "size" "I" (.int (0 : Int32))) (Fi4 : Exa Z h0 so "java/lang/String") :
    MetFree l (⟨"java/util/ArrayList", "add", "(Ljava/lang/Object;)Z"⟩ : MethodName) (head1 (Jvm.Cond.code (⟨"java/util/ArrayList", "add", "(Ljava/lang/Object;)Z"⟩ : MethodName) jdk_38_method_25_code 2 (some .boolean) :: ws) ({ frames := 4, cells := 1, slots := 10, locals := 56 } : Room)) (fun a U => a = #[(.ref ls), (.ref so)] ∧ Z.Warmed39 U.vm ∧ U.heap = h0) (fun _ _ _ _ _ => True) (fun _ U o U' => ∃ v L, o = .returned v ∧ Q_add19_0 Z ls so ad kd mc h0 n0 v U'.heap L ∧ FrameEnd U o U' L ({ frames := 4, cells := 1, slots := 10, locals := 56 } : Room).cells ({ frames := 4, cells := 1, slots := 10, locals := 56 } : Room).slots) := by
  refine MetFree.of_bodySF (plainFor_of_name pn_30) hisR ?_
  intro p e s m args below meth c s₁ Bd hml0 hP hK
  have W := fun {d : Jvm.Cond} (i : Nat) (q : tables_1[i]? = some d) => hw d (List.mem_of_getElem? q)
  obtain ⟨rfl, hZ, hh⟩ := hP
  have hx := Bd.exec
  have hby := Bd.bytes
  have hml : c.maxLocals = 2 := hml0
  have hown : s.vm.findClass "java/util/ArrayList" = some m.cls := findClass_of_methodNamed Bd.named
  have hnm := (name_of_methodNamed Bd.named Bd.method).1
  have X0 : Stand p l e ({ frames := 4, cells := 1, slots := 10, locals := 56 } : Room) s m #[(.ref ls), (.ref so)] below meth c s₁ [] 0 0 := Stand.of_body Bd
  have e0 : s₁.heap = h0 := by rw [← hh, Bd.state]; rfl
  have N0 := Fr.nil n0
  have pre0 : ∀ t, Steps p.tables e below (s₁.setTop (mkF m 0 #[rv ls, rv so] [])) t → Steps p.tables e below (s₁.setTop (entryFrame m #[(.ref ls), (.ref so)] 2)) t := fun t k => castTop (ef_37 m ls so) k
  have K0 : Keep h0 h0 [ls] := Keep.refl h0 [ls]
  have pre1408 : ∀ t, Steps p.tables e below (s₁.setTop (mkF m 2 #[rv ls, rv so] [(.ref ls), (.ref ls)])) t → Steps p.tables e below (s₁.setTop (entryFrame m #[(.ref ls), (.ref so)] 2)) t := fun t kt => by
    refine pre0 _ ?_
    show Steps p.tables e below (s₁.setTop (mkF m 0 #[rv ls, rv so] [])) _
    refine XS.aloadN X0.here hx rfl (hb hby d19_0) rfl rfl ?_
    refine XS.dup X0.here hx rfl (hb hby d19_1) rfl rfl ?_
    exact kt
  obtain ⟨T1409, X1409, e1409, st1409⟩ := getF X0 hx hZ hown (host := "") (Or.inl (W 103 rfl)) (Via.of (W 104 rfl)) e0 Fi1 (g := (mkF m 2 #[rv ls, rv so] [(.ref ls), (.ref ls)])) rfl rfl (hb hby d19_2)
  have pre1410 : ∀ t, Steps p.tables e below (T1409.setTop (mkF m 5 #[rv ls, rv so] [(.int mc), (.ref ls)])) t → Steps p.tables e below (s₁.setTop (entryFrame m #[(.ref ls), (.ref so)] 2)) t := fun t kt => pre1408 _ (st1409 _ kt)
  have pre1411 : ∀ t, Steps p.tables e below (T1409.setTop (mkF m 7 #[rv ls, rv so] [(.int (mc + (1 : Int32))), (.ref ls)])) t → Steps p.tables e below (s₁.setTop (entryFrame m #[(.ref ls), (.ref so)] 2)) t := fun t kt => by
    refine pre1410 _ ?_
    show Steps p.tables e below (T1409.setTop (mkF m 5 #[rv ls, rv so] [(.int mc), (.ref ls)])) _
    refine XS.iconst X1409.here hx rfl (hb hby d19_5) ?_
    refine XS.iadd X1409.here hx rfl (hb hby d19_6) rfl ?_
    exact kt
  obtain ⟨T1412, h1412, X1412, e1412, W1412, st1412⟩ := putF X1409 hx hZ hown (host := "") (Or.inl (W 103 rfl)) (Via.of (W 104 rfl)) e1409 Fi1 Fi0 (Or.inl (W 76 rfl)) (W 57 rfl) (ty := .int) (by decide) rfl rfl (g := (mkF m 7 #[rv ls, rv so] [(.int (mc + (1 : Int32))), (.ref ls)])) rfl rfl (hb hby d19_7)
  have pre1413 : ∀ t, Steps p.tables e below (T1412.setTop (mkF m 10 #[rv ls, rv so] [])) t → Steps p.tables e below (s₁.setTop (entryFrame m #[(.ref ls), (.ref so)] 2)) t := fun t kt => pre1411 _ (st1412 _ kt)
  have N1412 := Fr.snoc X1412 N0 g_ls
  have O1412 := O0.wr W1412 g_ls
  have K1412 : Keep h0 h1412 [ls] := K0.wr W1412 (Or.inl (List.mem_of_getElem? (i := 0) rfl))
  have F1414 := Fi0.wr W1412
  have F1415 := Fi2.other W1412 (Or.inr (slot_ne (Or.inl (W 79 rfl)) (Or.inl (W 76 rfl)) (by decide) (t := (.array (.object "java/lang/Object"))) (t' := .int) (by decide) (by decide)))
  have F1416 := Fi3.other W1412 (Or.inr (slot_ne (Or.inl (W 106 rfl)) (Or.inl (W 76 rfl)) (by decide) (t := .int) (t' := .int) (by decide) (by decide)))
  have F1417 := Fi4.wr W1412
  have F1418 : Fld Z h1412 ls "java/util/AbstractList" "modCount" "I" (.int (mc + (1 : Int32))) := Fi1.same W1412
  have pre1419 : ∀ t, Steps p.tables e below (T1412.setTop (mkF m 13 #[rv ls, rv so] [(.ref ls), (.ref so), (.ref ls)])) t → Steps p.tables e below (s₁.setTop (entryFrame m #[(.ref ls), (.ref so)] 2)) t := fun t kt => by
    refine pre1413 _ ?_
    show Steps p.tables e below (T1412.setTop (mkF m 10 #[rv ls, rv so] [])) _
    refine XS.aloadN X1412.here hx rfl (hb hby d19_10) rfl rfl ?_
    refine XS.aloadN X1412.here hx rfl (hb hby d19_11) rfl rfl ?_
    refine XS.aloadN X1412.here hx rfl (hb hby d19_12) rfl rfl ?_
    exact kt
  obtain ⟨T1420, X1420, e1420, st1420⟩ := getF X1412 hx hZ hown (host := "") (Or.inl (W 78 rfl)) Via.refl e1412 F1415 (g := (mkF m 13 #[rv ls, rv so] [(.ref ls), (.ref so), (.ref ls)])) rfl rfl (hb hby d19_13)
  have pre1421 : ∀ t, Steps p.tables e below (T1420.setTop (mkF m 16 #[rv ls, rv so] [(.ref ad), (.ref so), (.ref ls)])) t → Steps p.tables e below (s₁.setTop (entryFrame m #[(.ref ls), (.ref so)] 2)) t := fun t kt => pre1419 _ (st1420 _ kt)
  have pre1422 : ∀ t, Steps p.tables e below (T1420.setTop (mkF m 17 #[rv ls, rv so] [(.ref ls), (.ref ad), (.ref so), (.ref ls)])) t → Steps p.tables e below (s₁.setTop (entryFrame m #[(.ref ls), (.ref so)] 2)) t := fun t kt => by
    refine pre1421 _ ?_
    show Steps p.tables e below (T1420.setTop (mkF m 16 #[rv ls, rv so] [(.ref ad), (.ref so), (.ref ls)])) _
    refine XS.aloadN X1420.here hx rfl (hb hby d19_16) rfl rfl ?_
    exact kt
  obtain ⟨T1423, X1423, e1423, st1423⟩ := getF X1420 hx hZ hown (host := "") (Or.inl (W 105 rfl)) Via.refl e1420 F1416 (g := (mkF m 17 #[rv ls, rv so] [(.ref ls), (.ref ad), (.ref so), (.ref ls)])) rfl rfl (hb hby d19_17)
  have pre1424 : ∀ t, Steps p.tables e below (T1423.setTop (mkF m 20 #[rv ls, rv so] [(.int (0 : Int32)), (.ref ad), (.ref so), (.ref ls)])) t → Steps p.tables e below (s₁.setTop (entryFrame m #[(.ref ls), (.ref so)] 2)) t := fun t kt => pre1422 _ (st1423 _ kt)
  obtain ⟨cq1425, q1425, q1425'⟩ := (F1414).cell
  obtain ⟨_, _, ⟨T1425, L1425, k1425, n1425⟩, -, X1425, ⟨Lc1425, hQ1425, l1425, y1425, z1425⟩, st1425⟩ := X1423.privateBack hx (y := (⟨"java/util/ArrayList", "add", "(Ljava/lang/Object;[Ljava/lang/Object;I)V"⟩ : MethodName)) hown (mvT hZ (W 107 rfl)) (mvT hZ (W 108 rfl)) (mvT hZ (W 110 rfl)) (Cond.privateMethod_at (mvP hZ (W 109 rfl) (args := #[]))) (mvT hZ (W 111 rfl)) (by decide) (backOf (W := 0) (rm_add20_0 l Z a0 hw [] ls so ad kd mc h1412 n0 O1412 G0 G1 g_ls F1414 F1415 F1416 F1417 F1418) hZ (W 111 rfl) (W 58 rfl) (by decide) (by decide)) (g := (mkF m 20 #[rv ls, rv so] [(.int (0 : Int32)), (.ref ad), (.ref so), (.ref ls)])) rfl (by rw [hml]; rfl) (Steps.refl _) (a := ls) (by rw [e1423]; exact q1425) q1425' (argsL := [(.ref so), (.ref ad), (.int (0 : Int32))]) (rest := []) (lenOf pd_36 rfl) rfl (by show 2 * 0 + _ ≤ _; exact Nat.le_of_eq rfl) (hb hby d19_20) (fun _ _ => ⟨rfl, e1423, (by decide : 0 + 1 ≤ _), (by decide : 0 + 10 ≤ _)⟩)
  dsimp only [Pt.U, Pt.locs, Pt.cells, Pt.slots] at X1425 l1425 y1425 z1425 st1425 hQ1425
  replace l1425 := l1425.symm
  replace y1425 : 1 = k1425 := y1425.symm
  replace z1425 : 10 = n1425 := z1425.symm
  subst l1425 y1425 z1425
  obtain ⟨k1199_1425, b1199_1425, rfl, M1425, Kc1425, O1425, J1425_0, J1425_1, J1425_2, J1425_3, J1425_4, J1425_5, J1425_6, P1425_0⟩ := hQ1425
  obtain ⟨h1425, e1425⟩ : ∃ z, T1425.heap = z := ⟨_, rfl⟩
  rw [e1425] at Kc1425 O1425 J1425_0 J1425_1 J1425_3 J1425_4 J1425_5 J1425_6
  try rw [e1425] at P1425_0
  have N1425 := Fr.app N1412 M1425
  have K1425 : Keep h0 h1425 [ls] := K1412.trans Kc1425 (own_all1 (Or.inl (List.mem_of_getElem? (i := 0) rfl)))
  have pre1426 : ∀ t, Steps p.tables e below (T1425.setTop (mkF m 23 #[rv ls, rv so] [])) t → Steps p.tables e below (s₁.setTop (entryFrame m #[(.ref ls), (.ref so)] 2)) t := fun t kt => pre1424 _ (st1425.trans kt)
  have F1427 := F1417.keep Kc1425
  have sz_b1199_1425 : h0.size ≤ b1199_1425 := Nat.le_trans K1412.1 P1425_0
  have ne_ad_b1199_1425 : ad ≠ b1199_1425 := Nat.ne_of_lt (Nat.lt_of_lt_of_le (G1.ext O1412.2).lt P1425_0)
  have ne_ls_b1199_1425 : ls ≠ b1199_1425 := Nat.ne_of_lt (Nat.lt_of_lt_of_le F1414.lt P1425_0)
  have ne_so_b1199_1425 : so ≠ b1199_1425 := Nat.ne_of_lt (Nat.lt_of_lt_of_le F1417.lt P1425_0)
  have g_b1199_1425 : n0 ≤ b1199_1425 := Nat.le_trans (Nat.le_trans (Nat.le_of_eq O0.1.symm) O0.2.1) sz_b1199_1425
  have pre1428 : ∀ t, Steps p.tables e below (T1425.setTop (mkF m 24 #[rv ls, rv so] [(.int (1 : Int32))])) t → Steps p.tables e below (s₁.setTop (entryFrame m #[(.ref ls), (.ref so)] 2)) t := fun t kt => by
    refine pre1426 _ ?_
    show Steps p.tables e below (T1425.setTop (mkF m 23 #[rv ls, rv so] [])) _
    refine XS.iconst X1425.here hx rfl (hb hby d19_23) ?_
    exact kt
  obtain ⟨fs, hr, hrun, hended, hW, hsame⟩ := X1425.leave (v := some (.int (1 : Int32))) (fun h => by rw [Bd.returns] at h; cases h)
  refine ⟨_, _, pre1428 _ (retN X1425 hx (t := .boolean) Bd.returns (by simp) (hb hby d19_24) hr), hrun, hended, _, _, rfl, ?_, ⟨_, rfl⟩, hW, hsame.mono (by decide) (by decide)⟩
  show Q_add19_0 Z ls so ad kd mc h0 n0 _ T1425.heap _
  rw [e1425]
  exact ⟨k1199_1425, b1199_1425, rfl, N1425, K1425, O1425, J1425_0, J1425_1, J1425_2, J1425_3, J1425_4, J1425_5, J1425_6, sz_b1199_1425⟩
theorem pd_38 : parseMethodDescriptor "(Ljava/lang/Object;)Z" = some ⟨[(.object "java/lang/Object")], some .boolean⟩ := by decide +kernel
theorem d18_10 : decode prog_42_method_3_code 10 = .ok (.pop, 1) := by decide +kernel
theorem d18_11 : decode prog_42_method_3_code 11 = .ok (.aload_n 2, 1) := by decide +kernel
theorem d18_12 : decode prog_42_method_3_code 12 = .ok (.aload_n 1, 1) := by decide +kernel
theorem d18_13 : decode prog_42_method_3_code 13 = .ok (.invokevirtual 36, 3) := by decide +kernel
theorem d18_16 : decode prog_42_method_3_code 16 = .ok (.ifCond .ne 8, 3) := by decide +kernel
theorem d18_19 : decode prog_42_method_3_code 19 = .ok (.aload_n 0, 1) := by decide +kernel
theorem d18_20 : decode prog_42_method_3_code 20 = .ok (.iconst 1, 1) := by decide +kernel
theorem d18_21 : decode prog_42_method_3_code 21 = .ok (.putfield 39, 3) := by decide +kernel
theorem d18_24 : decode prog_42_method_3_code 24 = .ok (.return_, 1) := by decide +kernel
def Q_line0 (Z : State) (rp : Addr) (se : Addr) (so : Addr) (cz : Int32) (ad : Addr) (kd : ClassId) (ls : Addr) (mc : Int32) (df : Int32) (b1 : Int32) (c0 : Int32) (c1 : Int32) (b2 : Int32) (d0 : Int32) (d1 : Int32) (h0 : Heap) (n0 : Nat) (v : Option Value) (h : Heap) (L : List Loc) : Prop := ∃ (na : Addr) (kna : ClassId), v = none ∧ Fr n0 L ∧ Keep h0 h [rp, ls] ∧ Old Z n0 h ∧ Exa Z h rp "com/example/homethread/homethread/cli/ScenarioReport" ∧ Fld Z h rp "com/example/homethread/homethread/cli/ScenarioReport" "lines" "Ljava/util/List;" (.ref ls) ∧ Fld Z h rp "com/example/homethread/homethread/cli/ScenarioReport" "differs" "Z" (.int (own_dif df (own_eqv (own_cs b1 c0 c1) (own_cs b2 d0 d1)))) ∧ Exa Z h ls "java/util/ArrayList" ∧ Fld Z h ls "java/util/AbstractList" "modCount" "I" (.int (mc + (1 : Int32))) ∧ Fld Z h ls "java/util/ArrayList" "elementData" "[Ljava/lang/Object;" (.ref na) ∧ Fld Z h ls "java/util/ArrayList" "size" "I" (.int (1 : Int32)) ∧ Exa Z h na "[Ljava/lang/Object;" ∧ Arv Z h na kna (.object "java/lang/Object") (10 : Int32) [(.ref so), .null, .null, .null, .null, .null, .null, .null, .null, .null] .null ∧ Ovr Z kna "java/lang/Object" ∧ (h0.size ≤ na)
set_option maxRecDepth 65536 in
set_option maxHeartbeats 40000000 in
theorem rm_line0 (l : Launch) (Z : State) (a0 : Array Value) (hw : ∀ d ∈ tables_1, d.before a0 Z = true) (ws : List Jvm.Cond) (rp : Addr) (se : Addr) (so : Addr) (cz : Int32) (ad : Addr) (kd : ClassId) (ls : Addr) (mc : Int32) (df : Int32) (b1 : Int32) (c0 : Int32) (c1 : Int32) (b2 : Int32) (d0 : Int32) (d1 : Int32) (h0 : Heap) (n0 : Nat) (O0 : Old Z n0 h0) (G0 : Sta Z Z.heap "java/lang/String" "COMPACT_STRINGS" "Z" (.int cz)) (G1 : Sta Z Z.heap "java/util/ArrayList" "DEFAULTCAPACITY_EMPTY_ELEMENTDATA" "[Ljava/lang/Object;" (.ref ad)) (G2 : Arv Z Z.heap ad kd (.object "java/lang/Object") (0 : Int32) [] .null) (G3 : Exa Z Z.heap ad "[Ljava/lang/Object;") (g_rp : n0 ≤ rp) (g_ls : n0 ≤ ls) (Fi0 : Exa Z h0 rp "com/example/homethread/homethread/cli/ScenarioReport") (Fi1 : Fld Z h0 rp "com/example/homethread/homethread/cli/ScenarioReport" "lines" "Ljava/util/List;" (.ref ls)) (Fi2 : Fld Z h0 rp "com/example/homethread/homethread/cli/ScenarioReport" "differs" "Z" (.int df)) (Fi3 : Exa Z h0 ls "java/util/ArrayList") (Fi4 : Fld Z h0 ls "java/util/AbstractList" "modCount" "I" (.int mc)) (Fi5 : Fld Z h0 ls "java/util/ArrayList" "elementData" "[Ljava/lang/Object;" (.ref ad)) (Fi6 : Fld Z h0 ls "java/util/ArrayList" "size" "I" (.int (0 : Int32))) (qz : ¬ (cz = (0 : Int32))) (qn : ¬ (so = se)) (qd : own_bit df) (qm0 : ¬ (rp = ls)) (hF : Heap) (XF0 : Ext hF h0) (Fb0 : own_str Z hF so b1 c0 c1) (Fb1 : own_str Z hF se b2 d0 d1) (zF_rp : hF.size ≤ rp) (zF_ls : hF.size ≤ ls) :
    MetFree l (⟨"com/example/homethread/homethread/cli/ScenarioReport", "expectLine", "(Ljava/lang/String;Ljava/lang/String;)V"⟩ : MethodName) (head1 (Jvm.Cond.code (⟨"com/example/homethread/homethread/cli/ScenarioReport", "expectLine", "(Ljava/lang/String;Ljava/lang/String;)V"⟩ : MethodName) prog_42_method_3_code 3 none :: ws) ({ frames := 5, cells := 1, slots := 10, locals := 69 } : Room)) (fun a U => a = #[(.ref rp), (.ref se), (.ref so)] ∧ Z.Warmed39 U.vm ∧ U.heap = h0) (fun _ _ _ _ _ => True) (fun _ U o U' => ∃ v L, o = .returned v ∧ Q_line0 Z rp se so cz ad kd ls mc df b1 c0 c1 b2 d0 d1 h0 n0 v U'.heap L ∧ FrameEnd U o U' L ({ frames := 5, cells := 1, slots := 10, locals := 69 } : Room).cells ({ frames := 5, cells := 1, slots := 10, locals := 69 } : Room).slots) := by
  refine MetFree.of_bodySF (plainFor_of_name pn_25) hisR ?_
  intro p e s m args below meth c s₁ Bd hml0 hP hK
  have W := fun {d : Jvm.Cond} (i : Nat) (q : tables_1[i]? = some d) => hw d (List.mem_of_getElem? q)
  obtain ⟨rfl, hZ, hh⟩ := hP
  have hx := Bd.exec
  have hby := Bd.bytes
  have hml : c.maxLocals = 3 := hml0
  have hown : s.vm.findClass "com/example/homethread/homethread/cli/ScenarioReport" = some m.cls := findClass_of_methodNamed Bd.named
  have hnm := (name_of_methodNamed Bd.named Bd.method).1
  have X0 : Stand p l e ({ frames := 5, cells := 1, slots := 10, locals := 69 } : Room) s m #[(.ref rp), (.ref se), (.ref so)] below meth c s₁ [] 0 0 := Stand.of_body Bd
  have e0 : s₁.heap = h0 := by rw [← hh, Bd.state]; rfl
  have N0 := Fr.nil n0
  have pre0 : ∀ t, Steps p.tables e below (s₁.setTop (mkF m 0 #[rv rp, rv se, rv so] [])) t → Steps p.tables e below (s₁.setTop (entryFrame m #[(.ref rp), (.ref se), (.ref so)] 3)) t := fun t k => castTop (ef_26 m rp se so) k
  have K0 : Keep h0 h0 [rp, ls] := Keep.refl h0 [rp, ls]
  have E1049 := own_str_exa Fb0
  have E1050 := own_str_exa Fb1
  have ne_so_rp : so ≠ rp := Nat.ne_of_lt (Nat.lt_of_lt_of_le (own_str_lt Fb0) zF_rp)
  have ne_so_ls : so ≠ ls := Nat.ne_of_lt (Nat.lt_of_lt_of_le (own_str_lt Fb0) zF_ls)
  have ne_se_rp : se ≠ rp := Nat.ne_of_lt (Nat.lt_of_lt_of_le (own_str_lt Fb1) zF_rp)
  have ne_se_ls : se ≠ ls := Nat.ne_of_lt (Nat.lt_of_lt_of_le (own_str_lt Fb1) zF_ls)
  have pre1051 : ∀ t, Steps p.tables e below (s₁.setTop (mkF m 1 #[rv rp, rv se, rv so] [(.ref rp)])) t → Steps p.tables e below (s₁.setTop (entryFrame m #[(.ref rp), (.ref se), (.ref so)] 3)) t := fun t kt => by
    refine pre0 _ ?_
    show Steps p.tables e below (s₁.setTop (mkF m 0 #[rv rp, rv se, rv so] [])) _
    refine XS.aloadN X0.here hx rfl (hb hby d18_0) rfl rfl ?_
    exact kt
  obtain ⟨T1052, X1052, e1052, st1052⟩ := getF X0 hx hZ hown (host := "") (Or.inl (W 80 rfl)) Via.refl e0 Fi1 (g := (mkF m 1 #[rv rp, rv se, rv so] [(.ref rp)])) rfl rfl (hb hby d18_1)
  have pre1053 : ∀ t, Steps p.tables e below (T1052.setTop (mkF m 4 #[rv rp, rv se, rv so] [(.ref ls)])) t → Steps p.tables e below (s₁.setTop (entryFrame m #[(.ref rp), (.ref se), (.ref so)] 3)) t := fun t kt => pre1051 _ (st1052 _ kt)
  have pre1054 : ∀ t, Steps p.tables e below (T1052.setTop (mkF m 5 #[rv rp, rv se, rv so] [(.ref so), (.ref ls)])) t → Steps p.tables e below (s₁.setTop (entryFrame m #[(.ref rp), (.ref se), (.ref so)] 3)) t := fun t kt => by
    refine pre1053 _ ?_
    show Steps p.tables e below (T1052.setTop (mkF m 4 #[rv rp, rv se, rv so] [(.ref ls)])) _
    refine XS.aloadN X1052.here hx rfl (hb hby d18_4) rfl rfl ?_
    exact kt
  obtain ⟨cq1055, kq1055, q1055a, q1055b, q1055c⟩ := isOf hZ e1052 Fi3
  obtain ⟨_, _, ⟨T1055, L1055, k1055, n1055⟩, -, X1055, ⟨Lc1055, hQ1055, l1055, y1055, z1055⟩, st1055⟩ := X1052.interfaceBack hx (xi := (⟨"java/util/List", "add", "(Ljava/lang/Object;)Z"⟩ : MethodName)) (y := (⟨"java/util/ArrayList", "add", "(Ljava/lang/Object;)Z"⟩ : MethodName)) hown (mvT hZ (W 94 rfl)) (mvT hZ (W 95 rfl)) (mvT hZ (W 96 rfl)) (mvT hZ (W 97 rfl)) (mvT hZ (W 98 rfl)) (mvT hZ (W 99 rfl)) (mvT hZ (W 100 rfl)) (mvT hZ (W 101 rfl)) (by decide) (backOf (W := 0) (rm_add19_0 l Z a0 hw [] ls so ad kd mc h0 n0 O0 G1 G2 g_ls Fi3 Fi4 Fi5 Fi6 (E1049.ext XF0)) hZ (W 102 rfl) (W 58 rfl) (by decide) (by decide)) q1055a q1055b q1055c (g := (mkF m 5 #[rv rp, rv se, rv so] [(.ref so), (.ref ls)])) rfl (by rw [hml]; rfl) (Steps.refl _) (argsL := [(.ref so)]) (rest := []) (lenOf pd_38 rfl) rfl (by show 2 * 0 + _ ≤ _; exact Nat.le_of_eq rfl) (hb hby d18_5) (fun _ _ => ⟨rfl, e1052, (by decide : 0 + 1 ≤ _), (by decide : 0 + 10 ≤ _)⟩)
  dsimp only [Pt.U, Pt.locs, Pt.cells, Pt.slots] at X1055 l1055 y1055 z1055 st1055 hQ1055
  replace l1055 := l1055.symm
  replace y1055 : 1 = k1055 := y1055.symm
  replace z1055 : 10 = n1055 := z1055.symm
  subst l1055 y1055 z1055
  obtain ⟨k1199_1055, b1199_1055, rfl, M1055, Kc1055, O1055, J1055_0, J1055_1, J1055_2, J1055_3, J1055_4, J1055_5, J1055_6, P1055_0⟩ := hQ1055
  obtain ⟨h1055, e1055⟩ : ∃ z, T1055.heap = z := ⟨_, rfl⟩
  rw [e1055] at Kc1055 O1055 J1055_0 J1055_1 J1055_3 J1055_4 J1055_5 J1055_6
  try rw [e1055] at P1055_0
  have N1055 := Fr.app N0 M1055
  have K1055 : Keep h0 h1055 [rp, ls] := K0.trans Kc1055 (own_all1 (Or.inl (List.mem_of_getElem? (i := 1) rfl)))
  have pre1429 : ∀ t, Steps p.tables e below (T1055.setTop (mkF m 10 #[rv rp, rv se, rv so] [(.int (1 : Int32))])) t → Steps p.tables e below (s₁.setTop (entryFrame m #[(.ref rp), (.ref se), (.ref so)] 3)) t := fun t kt => pre1054 _ (st1055.trans kt)
  have XF1430 : Ext hF h1055 := own_ext_keep XF0 Kc1055 (own_all1 zF_ls)
  have F1431 := Fi0.keep Kc1055
  have F1432 := Fi1.keep Kc1055 (own_nm1 qm0)
  have F1433 := Fi2.keep Kc1055 (own_nm1 qm0)
  have sz_b1199_1055 : h0.size ≤ b1199_1055 := Nat.le_trans K0.1 P1055_0
  have ne_ad_b1199_1055 : ad ≠ b1199_1055 := Nat.ne_of_lt (Nat.lt_of_lt_of_le (G2.ext O0.2).lt P1055_0)
  have ne_rp_b1199_1055 : rp ≠ b1199_1055 := Nat.ne_of_lt (Nat.lt_of_lt_of_le Fi0.lt P1055_0)
  have ne_ls_b1199_1055 : ls ≠ b1199_1055 := Nat.ne_of_lt (Nat.lt_of_lt_of_le Fi3.lt P1055_0)
  have ne_so_b1199_1055 : so ≠ b1199_1055 := Nat.ne_of_lt (Nat.lt_of_lt_of_le (own_str_lt (own_str_ext Fb0 XF0)) P1055_0)
  have ne_se_b1199_1055 : se ≠ b1199_1055 := Nat.ne_of_lt (Nat.lt_of_lt_of_le (own_str_lt (own_str_ext Fb1 XF0)) P1055_0)
  have g_b1199_1055 : n0 ≤ b1199_1055 := Nat.le_trans (Nat.le_trans (Nat.le_of_eq O0.1.symm) O0.2.1) sz_b1199_1055
  have zF_b1199_1055 : hF.size ≤ b1199_1055 := Nat.le_trans XF0.1 P1055_0
  have pre1434 : ∀ t, Steps p.tables e below (T1055.setTop (mkF m 13 #[rv rp, rv se, rv so] [(.ref se), (.ref so)])) t → Steps p.tables e below (s₁.setTop (entryFrame m #[(.ref rp), (.ref se), (.ref so)] 3)) t := fun t kt => by
    refine pre1429 _ ?_
    show Steps p.tables e below (T1055.setTop (mkF m 10 #[rv rp, rv se, rv so] [(.int (1 : Int32))])) _
    refine XS.pop X1055.here hx rfl (hb hby d18_10) rfl rfl ?_
    refine XS.aloadN X1055.here hx rfl (hb hby d18_11) rfl rfl ?_
    refine XS.aloadN X1055.here hx rfl (hb hby d18_12) rfl rfl ?_
    exact kt
  obtain ⟨cq1435, kq1435, q1435a, q1435b, q1435c⟩ := isOf hZ e1055 (E1049.ext XF1430)
  obtain ⟨_, _, ⟨T1435, L1435, k1435, n1435⟩, -, X1435, ⟨Lc1435, hQ1435, l1435, y1435, z1435⟩, st1435⟩ := X1055.virtualBack hx (y := (⟨"java/lang/String", "equals", "(Ljava/lang/Object;)Z"⟩ : MethodName)) (z := (⟨"java/lang/String", "equals", "(Ljava/lang/Object;)Z"⟩ : MethodName)) hown (mvT hZ (W 129 rfl)) (mvT hZ (W 130 rfl)) (notFace_of_selects (args := #[]) (mvT hZ (W 132 rfl))) (mvT hZ (W 132 rfl)) (mvT hZ (W 131 rfl)) (by decide) (backOf (W := 0) (rm_equals l Z a0 hw [] so se cz b1 c0 c1 b2 d0 d1 h1055 n0 O1055 G0 (own_str_ext Fb0 XF1430) (own_str_ext Fb1 XF1430) qz qn) hZ (W 133 rfl) (W 9 rfl) (by decide) (by decide)) q1435a q1435c (g := (mkF m 13 #[rv rp, rv se, rv so] [(.ref se), (.ref so)])) rfl (by rw [hml]; rfl) (Steps.refl _) (argsL := [(.ref se)]) (rest := []) (lenOf pd_38 rfl) rfl (by show 2 * 0 + _ ≤ _; exact Nat.le_of_eq rfl) (hb hby d18_13) (fun _ _ => ⟨rfl, e1055, (by decide : 1 + 0 ≤ _), (by decide : 10 + 0 ≤ _)⟩)
  dsimp only [Pt.U, Pt.locs, Pt.cells, Pt.slots] at X1435 l1435 y1435 z1435 st1435 hQ1435
  replace l1435 := l1435.symm
  replace y1435 : 1 = k1435 := y1435.symm
  replace z1435 : 10 = n1435 := z1435.symm
  subst l1435 y1435 z1435
  obtain ⟨rfl, M1435, e1435⟩ := hQ1435
  have N1435 := Fr.app N1055 M1435
  have pre1436 : ∀ t, Steps p.tables e below (T1435.setTop (mkF m 16 #[rv rp, rv se, rv so] [(.int (own_eqv (own_cs b1 c0 c1) (own_cs b2 d0 d1)))])) t → Steps p.tables e below (s₁.setTop (entryFrame m #[(.ref rp), (.ref se), (.ref so)] 3)) t := fun t kt => pre1434 _ (st1435.trans kt)
  by_cases hc1437 : (own_eqv (own_cs b1 c0 c1) (own_cs b2 d0 d1)) = (0 : Int32)
  · have pre1438 : ∀ t, Steps p.tables e below (T1435.setTop (mkF m 21 #[rv rp, rv se, rv so] [(.int (1 : Int32)), (.ref rp)])) t → Steps p.tables e below (s₁.setTop (entryFrame m #[(.ref rp), (.ref se), (.ref so)] 3)) t := fun t kt => by
      refine pre1436 _ ?_
      show Steps p.tables e below (T1435.setTop (mkF m 16 #[rv rp, rv se, rv so] [(.int (own_eqv (own_cs b1 c0 c1) (own_cs b2 d0 d1)))])) _
      refine XS.ifNo X1435.here hx rfl (hb hby d18_16) rfl (XT.i0_ne_f hc1437) ?_
      refine XS.aloadN X1435.here hx rfl (hb hby d18_19) rfl rfl ?_
      refine XS.iconst X1435.here hx rfl (hb hby d18_20) ?_
      exact kt
    obtain ⟨T1439, h1439, X1439, e1439, W1439, st1439⟩ := putFN X1435 hx hZ hown (W 87 rfl) Via.refl e1435 F1433 F1431 (Or.inl (W 88 rfl)) (W 50 rfl) (ty := .boolean) (v' := (.int (1 : Int32))) (by decide) rfl rfl (g := (mkF m 21 #[rv rp, rv se, rv so] [(.int (1 : Int32)), (.ref rp)])) rfl rfl (hb hby d18_21)
    have pre1440 : ∀ t, Steps p.tables e below (T1439.setTop (mkF m 24 #[rv rp, rv se, rv so] [])) t → Steps p.tables e below (s₁.setTop (entryFrame m #[(.ref rp), (.ref se), (.ref so)] 3)) t := fun t kt => pre1438 _ (st1439 _ kt)
    have N1439 := Fr.snoc X1439 N1435 g_rp
    have O1439 := O1055.wr W1439 g_rp
    have K1439 : Keep h0 h1439 [rp, ls] := K1055.wr W1439 (Or.inl (List.mem_of_getElem? (i := 0) rfl))
    have XF1441 : Ext hF h1439 := own_ext_wr XF1430 W1439 zF_rp
    have F1442 := F1431.wr W1439
    have F1443 := F1432.other W1439 (Or.inr (slot_ne (Or.inr (W 81 rfl)) (Or.inl (W 88 rfl)) (by decide) (t := (.object "java/util/List")) (t' := .boolean) (by decide) (by decide)))
    have F1444 := J1055_0.wr W1439
    have F1445 := J1055_1.other W1439 (Or.inl (fun q => qm0 q.symm))
    have F1446 := J1055_3.wr W1439
    have F1447 := J1055_4.other W1439 (Or.inl (fun q => qm0 q.symm))
    have F1448 := J1055_5.other W1439 (fun q => ne_rp_b1199_1055 q.symm)
    have F1449 := J1055_6.other W1439 (Or.inl (fun q => qm0 q.symm))
    have F1450 : Fld Z h1439 rp "com/example/homethread/homethread/cli/ScenarioReport" "differs" "Z" (.int (1 : Int32)) := F1433.same W1439
    have F1451 : Fld Z h1439 rp "com/example/homethread/homethread/cli/ScenarioReport" "differs" "Z" (.int (own_dif df (own_eqv (own_cs b1 c0 c1) (own_cs b2 d0 d1)))) := (by rw [show (own_dif df (own_eqv (own_cs b1 c0 c1) (own_cs b2 d0 d1))) = (1 : Int32) from own_dif0 hc1437]; exact F1450)
    obtain ⟨fs, hr, hrun, hended, hW, hsame⟩ := X1439.leave (v := none) (fun _ => rfl)
    refine ⟨_, _, pre1440 _ (X1439.returnOut hx Bd.returns (hb hby d18_24) hr), hrun, hended, _, _, rfl, ?_, ⟨_, rfl⟩, hW, hsame.mono (by decide) (by decide)⟩
    show Q_line0 Z rp se so cz ad kd ls mc df b1 c0 c1 b2 d0 d1 h0 n0 _ T1439.heap _
    rw [e1439]
    exact ⟨b1199_1055, k1199_1055, rfl, N1439, K1439, O1439, F1442, F1443, F1451, F1444, F1445, F1447, F1449, F1446, F1448, J1055_2, sz_b1199_1055⟩
  · have pre1452 : ∀ t, Steps p.tables e below (T1435.setTop (mkF m 24 #[rv rp, rv se, rv so] [])) t → Steps p.tables e below (s₁.setTop (entryFrame m #[(.ref rp), (.ref se), (.ref so)] 3)) t := fun t kt => by
      refine pre1436 _ ?_
      show Steps p.tables e below (T1435.setTop (mkF m 16 #[rv rp, rv se, rv so] [(.int (own_eqv (own_cs b1 c0 c1) (own_cs b2 d0 d1)))])) _
      refine XS.ifYes X1435.here hx rfl (pc0 := 16) (pc' := 24) rfl (hb hby d18_16) rfl (XT.i0_ne_t hc1437) (by decide) (by decide) ?_
      exact kt
    have F1453 : Fld Z h1055 rp "com/example/homethread/homethread/cli/ScenarioReport" "differs" "Z" (.int (own_dif df (own_eqv (own_cs b1 c0 c1) (own_cs b2 d0 d1)))) := (by rw [show (own_dif df (own_eqv (own_cs b1 c0 c1) (own_cs b2 d0 d1))) = df from own_dif1 hc1437]; exact F1433)
    obtain ⟨fs, hr, hrun, hended, hW, hsame⟩ := X1435.leave (v := none) (fun _ => rfl)
    refine ⟨_, _, pre1452 _ (X1435.returnOut hx Bd.returns (hb hby d18_24) hr), hrun, hended, _, _, rfl, ?_, ⟨_, rfl⟩, hW, hsame.mono (by decide) (by decide)⟩
    show Q_line0 Z rp se so cz ad kd ls mc df b1 c0 c1 b2 d0 d1 h0 n0 _ T1435.heap _
    rw [e1435]
    exact ⟨b1199_1055, k1199_1055, rfl, N1435, K1055, O1055, F1431, F1432, F1453, J1055_0, J1055_1, J1055_4, J1055_6, J1055_3, J1055_5, J1055_2, sz_b1199_1055⟩
def Q_add20_1 (Z : State) (ls : Addr) (so : Addr) (ed : Addr) (v0 : Value) (ked : ClassId) (mc : Int32) (h0 : Heap) (n0 : Nat) (v : Option Value) (h : Heap) (L : List Loc) : Prop := v = none ∧ Fr n0 L ∧ Keep h0 h [ls, ed] ∧ Old Z n0 h ∧ Exa Z h ls "java/util/ArrayList" ∧ Fld Z h ls "java/util/ArrayList" "elementData" "[Ljava/lang/Object;" (.ref ed) ∧ Exa Z h ed "[Ljava/lang/Object;" ∧ Fld Z h ls "java/util/AbstractList" "modCount" "I" (.int (mc + (1 : Int32))) ∧ Arv Z h ed ked (.object "java/lang/Object") (10 : Int32) [v0, (.ref so), .null, .null, .null, .null, .null, .null, .null, .null] .null ∧ Fld Z h ls "java/util/ArrayList" "size" "I" (.int (2 : Int32))
set_option maxRecDepth 65536 in
set_option maxHeartbeats 40000000 in
theorem rm_add20_1 (l : Launch) (Z : State) (a0 : Array Value) (hw : ∀ d ∈ tables_1, d.before a0 Z = true) (ws : List Jvm.Cond) (ls : Addr) (so : Addr) (ed : Addr) (v0 : Value) (ked : ClassId) (mc : Int32) (h0 : Heap) (n0 : Nat) (O0 : Old Z n0 h0) (g_ls : n0 ≤ ls) (g_ed : n0 ≤ ed) (Fi0 : Exa Z h0 ls "java/util/ArrayList") (Fi1 : Fld Z h0 ls "java/util/ArrayList" "elementData" "[Ljava/lang/Object;" (.ref ed)) (Fi2 : Fld Z h0 ls "java/util/ArrayList" "size" "I" (.int (1 : Int32))) (Fi3 : Exa Z h0 ed "[Ljava/lang/Object;") (Fi4 : Arv Z h0 ed ked (.object "java/lang/Object") (10 : Int32) [v0, .null, .null, .null, .null, .null, .null, .null, .null, .null] .null) (Fi5 : Ovr Z ked "java/lang/Object") (Fi6 : Exa Z h0 so "java/lang/String") (Fi7 : Fld Z h0 ls "java/util/AbstractList" "modCount" "I" (.int (mc + (1 : Int32)))) (q0 : ¬ (ed = ls)) :
    MetFree l (⟨"java/util/ArrayList", "add", "(Ljava/lang/Object;[Ljava/lang/Object;I)V"⟩ : MethodName) (head1 (Jvm.Cond.code (⟨"java/util/ArrayList", "add", "(Ljava/lang/Object;[Ljava/lang/Object;I)V"⟩ : MethodName) jdk_38_method_24_code 4 none :: ws) ({ frames := 0, cells := 0, slots := 0, locals := 0 } : Room)) (fun a U => a = #[(.ref ls), (.ref so), (.ref ed), (.int (1 : Int32))] ∧ Z.Warmed39 U.vm ∧ U.heap = h0) (fun _ _ _ _ _ => True) (fun _ U o U' => ∃ v L, o = .returned v ∧ Q_add20_1 Z ls so ed v0 ked mc h0 n0 v U'.heap L ∧ FrameEnd U o U' L ({ frames := 0, cells := 0, slots := 0, locals := 0 } : Room).cells ({ frames := 0, cells := 0, slots := 0, locals := 0 } : Room).slots) := by
  refine MetFree.of_bodySF (plainFor_of_name pn_30) hisR ?_
  intro p e s m args below meth c s₁ Bd hml0 hP hK
  have W := fun {d : Jvm.Cond} (i : Nat) (q : tables_1[i]? = some d) => hw d (List.mem_of_getElem? q)
  obtain ⟨rfl, hZ, hh⟩ := hP
  have hx := Bd.exec
  have hby := Bd.bytes
  have hml : c.maxLocals = 4 := hml0
  have hown : s.vm.findClass "java/util/ArrayList" = some m.cls := findClass_of_methodNamed Bd.named
  have hnm := (name_of_methodNamed Bd.named Bd.method).1
  have X0 : Stand p l e ({ frames := 0, cells := 0, slots := 0, locals := 0 } : Room) s m #[(.ref ls), (.ref so), (.ref ed), (.int (1 : Int32))] below meth c s₁ [] 0 0 := Stand.of_body Bd
  have e0 : s₁.heap = h0 := by rw [← hh, Bd.state]; rfl
  have N0 := Fr.nil n0
  have pre0 : ∀ t, Steps p.tables e below (s₁.setTop (mkF m 0 #[rv ls, rv so, rv ed, iv (1 : Int32)] [])) t → Steps p.tables e below (s₁.setTop (entryFrame m #[(.ref ls), (.ref so), (.ref ed), (.int (1 : Int32))] 4)) t := fun t k => castTop (ef_35 m ls so ed (1 : Int32)) k
  have K0 : Keep h0 h0 [ls, ed] := Keep.refl h0 [ls, ed]
  have pre1563 : ∀ t, Steps p.tables e below (s₁.setTop (mkF m 2 #[rv ls, rv so, rv ed, iv (1 : Int32)] [(.ref ed), (.int (1 : Int32))])) t → Steps p.tables e below (s₁.setTop (entryFrame m #[(.ref ls), (.ref so), (.ref ed), (.int (1 : Int32))] 4)) t := fun t kt => by
    refine pre0 _ ?_
    show Steps p.tables e below (s₁.setTop (mkF m 0 #[rv ls, rv so, rv ed, iv (1 : Int32)] [])) _
    refine XS.iloadN X0.here hx rfl (hb hby d20_0) rfl ?_
    refine XS.aloadN X0.here hx rfl (hb hby d20_1) rfl rfl ?_
    exact kt
  obtain ⟨c1562, Ar1562, -, S1562, M1562, -, -⟩ := id Fi4
  have pre1564 : ∀ t, Steps p.tables e below (s₁.setTop (mkF m 14 #[rv ls, rv so, rv ed, iv (1 : Int32)] [(.ref so), (.int (1 : Int32)), (.ref ed)])) t → Steps p.tables e below (s₁.setTop (entryFrame m #[(.ref ls), (.ref so), (.ref ed), (.int (1 : Int32))] 4)) t := fun t kt => by
    refine pre1563 _ ?_
    show Steps p.tables e below (s₁.setTop (mkF m 2 #[rv ls, rv so, rv ed, iv (1 : Int32)] [(.ref ed), (.int (1 : Int32))])) _
    refine X0.arraylength hx (by rw [e0]; exact Ar1562.1) (State.isArrayOf_alike hZ.alike Ar1562.2.1) (g := (mkF m 2 #[rv ls, rv so, rv ed, iv (1 : Int32)] [(.ref ed), (.int (1 : Int32))])) rfl rfl (hb hby d20_2) _ ?_
    rw [len_of S1562 M1562]
    refine XS.icmpYes X0.here hx rfl (pc0 := 3) (pc' := 11) rfl (hb hby d20_3) rfl (XT.ii_ne_t (by decide)) (by decide) (by decide) ?_
    refine XS.aloadN X0.here hx rfl (hb hby d20_11) rfl rfl ?_
    refine XS.iloadN X0.here hx rfl (hb hby d20_12) rfl ?_
    refine XS.aloadN X0.here hx rfl (hb hby d20_13) rfl rfl ?_
    exact kt
  obtain ⟨c1565, Ar1565, q1565, S1565, M1565, H1565, G1565⟩ := id Fi4
  have i1565 : ¬ ((1 : Int32) < 0 ∨ c1565.slots.size ≤ ((1 : Int32)).toNatClampNeg) := inb_of S1565 ⟨by decide, by decide⟩
  obtain ⟨T1566, h1566, X1566, e1566, W1566, st1566⟩ := stR X0 hx hZ e0 Ar1565 (j := (1 : Int32)) i1565 rfl (Sto.ofV Ar1565 q1565 Fi5 (Ins.of_exa Fi6 (W 128 rfl))) (g := (mkF m 14 #[rv ls, rv so, rv ed, iv (1 : Int32)] [(.ref so), (.int (1 : Int32)), (.ref ed)])) rfl rfl (hb hby d20_14)
  have pre1567 : ∀ t, Steps p.tables e below (T1566.setTop (mkF m 15 #[rv ls, rv so, rv ed, iv (1 : Int32)] [])) t → Steps p.tables e below (s₁.setTop (entryFrame m #[(.ref ls), (.ref so), (.ref ed), (.int (1 : Int32))] 4)) t := fun t kt => pre1564 _ (st1566 _ kt)
  have N1566 := Fr.snoc X1566 N0 g_ed
  have O1566 := O0.wr W1566 g_ed
  have K1566 : Keep h0 h1566 [ls, ed] := K0.wr W1566 (Or.inl (List.mem_of_getElem? (i := 1) rfl))
  have F1568 := Fi0.wr W1566
  have F1569 := Fi1.other W1566 (Or.inl (fun q => q0 q.symm))
  have F1570 := Fi2.other W1566 (Or.inl (fun q => q0 q.symm))
  have F1571 := Fi3.wr W1566
  have F1572 := Fi6.wr W1566
  have F1573 := Fi7.other W1566 (Or.inl (fun q => q0 q.symm))
  have F1574 : Arv Z h1566 ed ked (.object "java/lang/Object") (10 : Int32) [v0, (.ref so), .null, .null, .null, .null, .null, .null, .null, .null] .null := Arv.set Ar1565 q1565 S1565 M1565 H1565 G1565 rfl W1566 1 rfl (Nat.le_of_ble_eq_true rfl)
  have pre1575 : ∀ t, Steps p.tables e below (T1566.setTop (mkF m 19 #[rv ls, rv so, rv ed, iv (1 : Int32)] [(.int (2 : Int32)), (.ref ls)])) t → Steps p.tables e below (s₁.setTop (entryFrame m #[(.ref ls), (.ref so), (.ref ed), (.int (1 : Int32))] 4)) t := fun t kt => by
    refine pre1567 _ ?_
    show Steps p.tables e below (T1566.setTop (mkF m 15 #[rv ls, rv so, rv ed, iv (1 : Int32)] [])) _
    refine XS.aloadN X1566.here hx rfl (hb hby d20_15) rfl rfl ?_
    refine XS.iloadN X1566.here hx rfl (hb hby d20_16) rfl ?_
    refine XS.iconst X1566.here hx rfl (hb hby d20_17) ?_
    refine XS.iadd X1566.here hx rfl (hb hby d20_18) rfl ?_
    show  Steps p.tables e below (T1566.setTop (mkF m 19 #[rv ls, rv so, rv ed, iv (1 : Int32)] [(.int ((1 : Int32) + (1 : Int32))), (.ref ls)])) _
    rw [(by decide : (((1 : Int32) + (1 : Int32)) : Int32) = (2 : Int32))]
    exact kt
  obtain ⟨T1576, h1576, X1576, e1576, W1576, st1576⟩ := putF X1566 hx hZ hown (host := "") (Or.inl (W 105 rfl)) Via.refl e1566 F1570 F1568 (Or.inl (W 106 rfl)) (W 57 rfl) (ty := .int) (by decide) rfl rfl (g := (mkF m 19 #[rv ls, rv so, rv ed, iv (1 : Int32)] [(.int (2 : Int32)), (.ref ls)])) rfl rfl (hb hby d20_19)
  have pre1577 : ∀ t, Steps p.tables e below (T1576.setTop (mkF m 22 #[rv ls, rv so, rv ed, iv (1 : Int32)] [])) t → Steps p.tables e below (s₁.setTop (entryFrame m #[(.ref ls), (.ref so), (.ref ed), (.int (1 : Int32))] 4)) t := fun t kt => pre1575 _ (st1576 _ kt)
  have N1576 := Fr.snoc X1576 N1566 g_ls
  have O1576 := O1566.wr W1576 g_ls
  have K1576 : Keep h0 h1576 [ls, ed] := K1566.wr W1576 (Or.inl (List.mem_of_getElem? (i := 0) rfl))
  have F1578 := F1568.wr W1576
  have F1579 := F1569.other W1576 (Or.inr (slot_ne (Or.inl (W 79 rfl)) (Or.inl (W 106 rfl)) (by decide) (t := (.array (.object "java/lang/Object"))) (t' := .int) (by decide) (by decide)))
  have F1580 := F1571.wr W1576
  have F1581 := F1572.wr W1576
  have F1582 := F1573.other W1576 (Or.inr (slot_ne (Or.inl (W 76 rfl)) (Or.inl (W 106 rfl)) (by decide) (t := .int) (t' := .int) (by decide) (by decide)))
  have F1583 := F1574.other W1576 q0
  have F1584 : Fld Z h1576 ls "java/util/ArrayList" "size" "I" (.int (2 : Int32)) := F1570.same W1576
  obtain ⟨fs, hr, hrun, hended, hW, hsame⟩ := X1576.leave (v := none) (fun _ => rfl)
  refine ⟨_, _, pre1577 _ (X1576.returnOut hx Bd.returns (hb hby d20_22) hr), hrun, hended, _, _, rfl, ?_, ⟨_, rfl⟩, hW, hsame.mono (by decide) (by decide)⟩
  show Q_add20_1 Z ls so ed v0 ked mc h0 n0 _ T1576.heap _
  rw [e1576]
  exact ⟨rfl, N1576, K1576, O1576, F1578, F1579, F1580, F1582, F1583, F1584⟩
def Q_add19_1 (Z : State) (ls : Addr) (so : Addr) (mc : Int32) (ed : Addr) (v0 : Value) (ked : ClassId) (h0 : Heap) (n0 : Nat) (v : Option Value) (h : Heap) (L : List Loc) : Prop := v = some (.int (1 : Int32)) ∧ Fr n0 L ∧ Keep h0 h [ls, ed] ∧ Old Z n0 h ∧ Exa Z h ls "java/util/ArrayList" ∧ Fld Z h ls "java/util/ArrayList" "elementData" "[Ljava/lang/Object;" (.ref ed) ∧ Exa Z h ed "[Ljava/lang/Object;" ∧ Fld Z h ls "java/util/AbstractList" "modCount" "I" (.int (mc + (1 : Int32))) ∧ Arv Z h ed ked (.object "java/lang/Object") (10 : Int32) [v0, (.ref so), .null, .null, .null, .null, .null, .null, .null, .null] .null ∧ Fld Z h ls "java/util/ArrayList" "size" "I" (.int (2 : Int32))
set_option maxRecDepth 65536 in
set_option maxHeartbeats 40000000 in
theorem rm_add19_1 (l : Launch) (Z : State) (a0 : Array Value) (hw : ∀ d ∈ tables_1, d.before a0 Z = true) (ws : List Jvm.Cond) (ls : Addr) (so : Addr) (mc : Int32) (ed : Addr) (v0 : Value) (ked : ClassId) (h0 : Heap) (n0 : Nat) (O0 : Old Z n0 h0) (g_ls : n0 ≤ ls) (g_ed : n0 ≤ ed) (Fi0 : Exa Z h0 ls "java/util/ArrayList") (Fi1 : Fld Z h0 ls "java/util/AbstractList" "modCount" "I" (.int mc)) (Fi2 : Fld Z h0 ls "java/util/ArrayList" "elementData" "[Ljava/lang/Object;" (.ref ed)) (Fi3 : Fld Z h0 ls "java/util/ArrayList" "size" "I" (.int (1 : Int32))) (Fi4 : Exa Z h0 ed "[Ljava/lang/Object;") (Fi5 : Arv Z h0 ed ked (.object "java/lang/Object") (10 : Int32) [v0, .null, .null, .null, .null, .null, .null, .null, .null, .null] .null) (Fi6 : Ovr Z ked "java/lang/Object") (Fi7 : Exa Z h0 so "java/lang/String") (q0 : ¬ (ed = ls)) :
    MetFree l (⟨"java/util/ArrayList", "add", "(Ljava/lang/Object;)Z"⟩ : MethodName) (head1 (Jvm.Cond.code (⟨"java/util/ArrayList", "add", "(Ljava/lang/Object;)Z"⟩ : MethodName) jdk_38_method_25_code 2 (some .boolean) :: ws) ({ frames := 1, cells := 0, slots := 0, locals := 15 } : Room)) (fun a U => a = #[(.ref ls), (.ref so)] ∧ Z.Warmed39 U.vm ∧ U.heap = h0) (fun _ _ _ _ _ => True) (fun _ U o U' => ∃ v L, o = .returned v ∧ Q_add19_1 Z ls so mc ed v0 ked h0 n0 v U'.heap L ∧ FrameEnd U o U' L ({ frames := 1, cells := 0, slots := 0, locals := 15 } : Room).cells ({ frames := 1, cells := 0, slots := 0, locals := 15 } : Room).slots) := by
  refine MetFree.of_bodySF (plainFor_of_name pn_30) hisR ?_
  intro p e s m args below meth c s₁ Bd hml0 hP hK
  have W := fun {d : Jvm.Cond} (i : Nat) (q : tables_1[i]? = some d) => hw d (List.mem_of_getElem? q)
  obtain ⟨rfl, hZ, hh⟩ := hP
  have hx := Bd.exec
  have hby := Bd.bytes
  have hml : c.maxLocals = 2 := hml0
  have hown : s.vm.findClass "java/util/ArrayList" = some m.cls := findClass_of_methodNamed Bd.named
  have hnm := (name_of_methodNamed Bd.named Bd.method).1
  have X0 : Stand p l e ({ frames := 1, cells := 0, slots := 0, locals := 15 } : Room) s m #[(.ref ls), (.ref so)] below meth c s₁ [] 0 0 := Stand.of_body Bd
  have e0 : s₁.heap = h0 := by rw [← hh, Bd.state]; rfl
  have N0 := Fr.nil n0
  have pre0 : ∀ t, Steps p.tables e below (s₁.setTop (mkF m 0 #[rv ls, rv so] [])) t → Steps p.tables e below (s₁.setTop (entryFrame m #[(.ref ls), (.ref so)] 2)) t := fun t k => castTop (ef_37 m ls so) k
  have K0 : Keep h0 h0 [ls, ed] := Keep.refl h0 [ls, ed]
  have pre1638 : ∀ t, Steps p.tables e below (s₁.setTop (mkF m 2 #[rv ls, rv so] [(.ref ls), (.ref ls)])) t → Steps p.tables e below (s₁.setTop (entryFrame m #[(.ref ls), (.ref so)] 2)) t := fun t kt => by
    refine pre0 _ ?_
    show Steps p.tables e below (s₁.setTop (mkF m 0 #[rv ls, rv so] [])) _
    refine XS.aloadN X0.here hx rfl (hb hby d19_0) rfl rfl ?_
    refine XS.dup X0.here hx rfl (hb hby d19_1) rfl rfl ?_
    exact kt
  obtain ⟨T1639, X1639, e1639, st1639⟩ := getF X0 hx hZ hown (host := "") (Or.inl (W 103 rfl)) (Via.of (W 104 rfl)) e0 Fi1 (g := (mkF m 2 #[rv ls, rv so] [(.ref ls), (.ref ls)])) rfl rfl (hb hby d19_2)
  have pre1640 : ∀ t, Steps p.tables e below (T1639.setTop (mkF m 5 #[rv ls, rv so] [(.int mc), (.ref ls)])) t → Steps p.tables e below (s₁.setTop (entryFrame m #[(.ref ls), (.ref so)] 2)) t := fun t kt => pre1638 _ (st1639 _ kt)
  have pre1641 : ∀ t, Steps p.tables e below (T1639.setTop (mkF m 7 #[rv ls, rv so] [(.int (mc + (1 : Int32))), (.ref ls)])) t → Steps p.tables e below (s₁.setTop (entryFrame m #[(.ref ls), (.ref so)] 2)) t := fun t kt => by
    refine pre1640 _ ?_
    show Steps p.tables e below (T1639.setTop (mkF m 5 #[rv ls, rv so] [(.int mc), (.ref ls)])) _
    refine XS.iconst X1639.here hx rfl (hb hby d19_5) ?_
    refine XS.iadd X1639.here hx rfl (hb hby d19_6) rfl ?_
    exact kt
  obtain ⟨T1642, h1642, X1642, e1642, W1642, st1642⟩ := putF X1639 hx hZ hown (host := "") (Or.inl (W 103 rfl)) (Via.of (W 104 rfl)) e1639 Fi1 Fi0 (Or.inl (W 76 rfl)) (W 57 rfl) (ty := .int) (by decide) rfl rfl (g := (mkF m 7 #[rv ls, rv so] [(.int (mc + (1 : Int32))), (.ref ls)])) rfl rfl (hb hby d19_7)
  have pre1643 : ∀ t, Steps p.tables e below (T1642.setTop (mkF m 10 #[rv ls, rv so] [])) t → Steps p.tables e below (s₁.setTop (entryFrame m #[(.ref ls), (.ref so)] 2)) t := fun t kt => pre1641 _ (st1642 _ kt)
  have N1642 := Fr.snoc X1642 N0 g_ls
  have O1642 := O0.wr W1642 g_ls
  have K1642 : Keep h0 h1642 [ls, ed] := K0.wr W1642 (Or.inl (List.mem_of_getElem? (i := 0) rfl))
  have F1644 := Fi0.wr W1642
  have F1645 := Fi2.other W1642 (Or.inr (slot_ne (Or.inl (W 79 rfl)) (Or.inl (W 76 rfl)) (by decide) (t := (.array (.object "java/lang/Object"))) (t' := .int) (by decide) (by decide)))
  have F1646 := Fi3.other W1642 (Or.inr (slot_ne (Or.inl (W 106 rfl)) (Or.inl (W 76 rfl)) (by decide) (t := .int) (t' := .int) (by decide) (by decide)))
  have F1647 := Fi4.wr W1642
  have F1648 := Fi5.other W1642 q0
  have F1649 := Fi7.wr W1642
  have F1650 : Fld Z h1642 ls "java/util/AbstractList" "modCount" "I" (.int (mc + (1 : Int32))) := Fi1.same W1642
  have pre1651 : ∀ t, Steps p.tables e below (T1642.setTop (mkF m 13 #[rv ls, rv so] [(.ref ls), (.ref so), (.ref ls)])) t → Steps p.tables e below (s₁.setTop (entryFrame m #[(.ref ls), (.ref so)] 2)) t := fun t kt => by
    refine pre1643 _ ?_
    show Steps p.tables e below (T1642.setTop (mkF m 10 #[rv ls, rv so] [])) _
    refine XS.aloadN X1642.here hx rfl (hb hby d19_10) rfl rfl ?_
    refine XS.aloadN X1642.here hx rfl (hb hby d19_11) rfl rfl ?_
    refine XS.aloadN X1642.here hx rfl (hb hby d19_12) rfl rfl ?_
    exact kt
  obtain ⟨T1652, X1652, e1652, st1652⟩ := getF X1642 hx hZ hown (host := "") (Or.inl (W 78 rfl)) Via.refl e1642 F1645 (g := (mkF m 13 #[rv ls, rv so] [(.ref ls), (.ref so), (.ref ls)])) rfl rfl (hb hby d19_13)
  have pre1653 : ∀ t, Steps p.tables e below (T1652.setTop (mkF m 16 #[rv ls, rv so] [(.ref ed), (.ref so), (.ref ls)])) t → Steps p.tables e below (s₁.setTop (entryFrame m #[(.ref ls), (.ref so)] 2)) t := fun t kt => pre1651 _ (st1652 _ kt)
  have pre1654 : ∀ t, Steps p.tables e below (T1652.setTop (mkF m 17 #[rv ls, rv so] [(.ref ls), (.ref ed), (.ref so), (.ref ls)])) t → Steps p.tables e below (s₁.setTop (entryFrame m #[(.ref ls), (.ref so)] 2)) t := fun t kt => by
    refine pre1653 _ ?_
    show Steps p.tables e below (T1652.setTop (mkF m 16 #[rv ls, rv so] [(.ref ed), (.ref so), (.ref ls)])) _
    refine XS.aloadN X1652.here hx rfl (hb hby d19_16) rfl rfl ?_
    exact kt
  obtain ⟨T1655, X1655, e1655, st1655⟩ := getF X1652 hx hZ hown (host := "") (Or.inl (W 105 rfl)) Via.refl e1652 F1646 (g := (mkF m 17 #[rv ls, rv so] [(.ref ls), (.ref ed), (.ref so), (.ref ls)])) rfl rfl (hb hby d19_17)
  have pre1656 : ∀ t, Steps p.tables e below (T1655.setTop (mkF m 20 #[rv ls, rv so] [(.int (1 : Int32)), (.ref ed), (.ref so), (.ref ls)])) t → Steps p.tables e below (s₁.setTop (entryFrame m #[(.ref ls), (.ref so)] 2)) t := fun t kt => pre1654 _ (st1655 _ kt)
  obtain ⟨cq1657, q1657, q1657'⟩ := (F1644).cell
  obtain ⟨_, _, ⟨T1657, L1657, k1657, n1657⟩, -, X1657, ⟨Lc1657, hQ1657, l1657, y1657, z1657⟩, st1657⟩ := X1655.privateBack hx (y := (⟨"java/util/ArrayList", "add", "(Ljava/lang/Object;[Ljava/lang/Object;I)V"⟩ : MethodName)) hown (mvT hZ (W 107 rfl)) (mvT hZ (W 108 rfl)) (mvT hZ (W 110 rfl)) (Cond.privateMethod_at (mvP hZ (W 109 rfl) (args := #[]))) (mvT hZ (W 111 rfl)) (by decide) (backOf (W := 0) (rm_add20_1 l Z a0 hw [] ls so ed v0 ked mc h1642 n0 O1642 g_ls g_ed F1644 F1645 F1646 F1647 F1648 Fi6 F1649 F1650 q0) hZ (W 111 rfl) (W 58 rfl) (by decide) (by decide)) (g := (mkF m 20 #[rv ls, rv so] [(.int (1 : Int32)), (.ref ed), (.ref so), (.ref ls)])) rfl (by rw [hml]; rfl) (Steps.refl _) (a := ls) (by rw [e1655]; exact q1657) q1657' (argsL := [(.ref so), (.ref ed), (.int (1 : Int32))]) (rest := []) (lenOf pd_36 rfl) rfl (by show 2 * 0 + _ ≤ _; exact Nat.le_of_eq rfl) (hb hby d19_20) (fun _ _ => ⟨rfl, e1655, (by decide : 0 + 0 ≤ _), (by decide : 0 + 0 ≤ _)⟩)
  dsimp only [Pt.U, Pt.locs, Pt.cells, Pt.slots] at X1657 l1657 y1657 z1657 st1657 hQ1657
  replace l1657 := l1657.symm
  replace y1657 : 0 = k1657 := y1657.symm
  replace z1657 : 0 = n1657 := z1657.symm
  subst l1657 y1657 z1657
  obtain ⟨rfl, M1657, Kc1657, O1657, J1657_0, J1657_1, J1657_2, J1657_3, J1657_4, J1657_5⟩ := hQ1657
  obtain ⟨h1657, e1657⟩ : ∃ z, T1657.heap = z := ⟨_, rfl⟩
  rw [e1657] at Kc1657 O1657 J1657_0 J1657_1 J1657_2 J1657_3 J1657_4 J1657_5
  have N1657 := Fr.app N1642 M1657
  have K1657 : Keep h0 h1657 [ls, ed] := K1642.trans Kc1657 (own_all2 (Or.inl (List.mem_of_getElem? (i := 0) rfl)) (Or.inl (List.mem_of_getElem? (i := 1) rfl)))
  have pre1658 : ∀ t, Steps p.tables e below (T1657.setTop (mkF m 23 #[rv ls, rv so] [])) t → Steps p.tables e below (s₁.setTop (entryFrame m #[(.ref ls), (.ref so)] 2)) t := fun t kt => pre1656 _ (st1657.trans kt)
  have F1659 := F1649.keep Kc1657
  have pre1660 : ∀ t, Steps p.tables e below (T1657.setTop (mkF m 24 #[rv ls, rv so] [(.int (1 : Int32))])) t → Steps p.tables e below (s₁.setTop (entryFrame m #[(.ref ls), (.ref so)] 2)) t := fun t kt => by
    refine pre1658 _ ?_
    show Steps p.tables e below (T1657.setTop (mkF m 23 #[rv ls, rv so] [])) _
    refine XS.iconst X1657.here hx rfl (hb hby d19_23) ?_
    exact kt
  obtain ⟨fs, hr, hrun, hended, hW, hsame⟩ := X1657.leave (v := some (.int (1 : Int32))) (fun h => by rw [Bd.returns] at h; cases h)
  refine ⟨_, _, pre1660 _ (retN X1657 hx (t := .boolean) Bd.returns (by simp) (hb hby d19_24) hr), hrun, hended, _, _, rfl, ?_, ⟨_, rfl⟩, hW, hsame.mono (by decide) (by decide)⟩
  show Q_add19_1 Z ls so mc ed v0 ked h0 n0 _ T1657.heap _
  rw [e1657]
  exact ⟨rfl, N1657, K1657, O1657, J1657_0, J1657_1, J1657_2, J1657_3, J1657_4, J1657_5⟩
def Q_line1 (Z : State) (rp : Addr) (se : Addr) (so : Addr) (cz : Int32) (ad : Addr) (kd : ClassId) (ls : Addr) (mc : Int32) (df : Int32) (b1 : Int32) (c0 : Int32) (c1 : Int32) (b2 : Int32) (d0 : Int32) (d1 : Int32) (ed : Addr) (ked : ClassId) (v0 : Value) (h0 : Heap) (n0 : Nat) (v : Option Value) (h : Heap) (L : List Loc) : Prop := v = none ∧ Fr n0 L ∧ Keep h0 h [rp, ls, ed] ∧ Old Z n0 h ∧ Exa Z h rp "com/example/homethread/homethread/cli/ScenarioReport" ∧ Fld Z h rp "com/example/homethread/homethread/cli/ScenarioReport" "lines" "Ljava/util/List;" (.ref ls) ∧ Fld Z h rp "com/example/homethread/homethread/cli/ScenarioReport" "differs" "Z" (.int (own_dif df (own_eqv (own_cs b1 c0 c1) (own_cs b2 d0 d1)))) ∧ Exa Z h ls "java/util/ArrayList" ∧ Fld Z h ls "java/util/AbstractList" "modCount" "I" (.int (mc + (1 : Int32))) ∧ Fld Z h ls "java/util/ArrayList" "elementData" "[Ljava/lang/Object;" (.ref ed) ∧ Fld Z h ls "java/util/ArrayList" "size" "I" (.int (2 : Int32)) ∧ Exa Z h ed "[Ljava/lang/Object;" ∧ Arv Z h ed ked (.object "java/lang/Object") (10 : Int32) [v0, (.ref so), .null, .null, .null, .null, .null, .null, .null, .null] .null ∧ Ovr Z ked "java/lang/Object"
set_option maxRecDepth 65536 in
set_option maxHeartbeats 40000000 in
theorem rm_line1 (l : Launch) (Z : State) (a0 : Array Value) (hw : ∀ d ∈ tables_1, d.before a0 Z = true) (ws : List Jvm.Cond) (rp : Addr) (se : Addr) (so : Addr) (cz : Int32) (ad : Addr) (kd : ClassId) (ls : Addr) (mc : Int32) (df : Int32) (b1 : Int32) (c0 : Int32) (c1 : Int32) (b2 : Int32) (d0 : Int32) (d1 : Int32) (ed : Addr) (ked : ClassId) (v0 : Value) (h0 : Heap) (n0 : Nat) (O0 : Old Z n0 h0) (G0 : Sta Z Z.heap "java/lang/String" "COMPACT_STRINGS" "Z" (.int cz)) (G1 : Sta Z Z.heap "java/util/ArrayList" "DEFAULTCAPACITY_EMPTY_ELEMENTDATA" "[Ljava/lang/Object;" (.ref ad)) (G2 : Arv Z Z.heap ad kd (.object "java/lang/Object") (0 : Int32) [] .null) (G3 : Exa Z Z.heap ad "[Ljava/lang/Object;") (g_rp : n0 ≤ rp) (g_ls : n0 ≤ ls) (g_ed : n0 ≤ ed) (Fi0 : Exa Z h0 rp "com/example/homethread/homethread/cli/ScenarioReport") (Fi1 : Fld Z h0 rp "com/example/homethread/homethread/cli/ScenarioReport" "lines" "Ljava/util/List;" (.ref ls)) (Fi2 : Fld Z h0 rp "com/example/homethread/homethread/cli/ScenarioReport" "differs" "Z" (.int df)) (Fi3 : Exa Z h0 ls "java/util/ArrayList") (Fi4 : Fld Z h0 ls "java/util/AbstractList" "modCount" "I" (.int mc)) (Fi5 : Fld Z h0 ls "java/util/ArrayList" "elementData" "[Ljava/lang/Object;" (.ref ed)) (Fi6 : Fld Z h0 ls "java/util/ArrayList" "size" "I" (.int (1 : Int32))) (Fi7 : Exa Z h0 ed "[Ljava/lang/Object;") (Fi8 : Arv Z h0 ed ked (.object "java/lang/Object") (10 : Int32) [v0, .null, .null, .null, .null, .null, .null, .null, .null, .null] .null) (Fi9 : Ovr Z ked "java/lang/Object") (qz : ¬ (cz = (0 : Int32))) (qn : ¬ (so = se)) (qd : own_bit df) (qm0 : ¬ (rp = ls)) (qm1 : ¬ (rp = ed)) (qm2 : ¬ (ls = ed)) (hF : Heap) (XF0 : Ext hF h0) (Fb0 : own_str Z hF so b1 c0 c1) (Fb1 : own_str Z hF se b2 d0 d1) (zF_rp : hF.size ≤ rp) (zF_ls : hF.size ≤ ls) (zF_ed : hF.size ≤ ed) :
    MetFree l (⟨"com/example/homethread/homethread/cli/ScenarioReport", "expectLine", "(Ljava/lang/String;Ljava/lang/String;)V"⟩ : MethodName) (head1 (Jvm.Cond.code (⟨"com/example/homethread/homethread/cli/ScenarioReport", "expectLine", "(Ljava/lang/String;Ljava/lang/String;)V"⟩ : MethodName) prog_42_method_3_code 3 none :: ws) ({ frames := 2, cells := 0, slots := 0, locals := 28 } : Room)) (fun a U => a = #[(.ref rp), (.ref se), (.ref so)] ∧ Z.Warmed39 U.vm ∧ U.heap = h0) (fun _ _ _ _ _ => True) (fun _ U o U' => ∃ v L, o = .returned v ∧ Q_line1 Z rp se so cz ad kd ls mc df b1 c0 c1 b2 d0 d1 ed ked v0 h0 n0 v U'.heap L ∧ FrameEnd U o U' L ({ frames := 2, cells := 0, slots := 0, locals := 28 } : Room).cells ({ frames := 2, cells := 0, slots := 0, locals := 28 } : Room).slots) := by
  refine MetFree.of_bodySF (plainFor_of_name pn_25) hisR ?_
  intro p e s m args below meth c s₁ Bd hml0 hP hK
  have W := fun {d : Jvm.Cond} (i : Nat) (q : tables_1[i]? = some d) => hw d (List.mem_of_getElem? q)
  obtain ⟨rfl, hZ, hh⟩ := hP
  have hx := Bd.exec
  have hby := Bd.bytes
  have hml : c.maxLocals = 3 := hml0
  have hown : s.vm.findClass "com/example/homethread/homethread/cli/ScenarioReport" = some m.cls := findClass_of_methodNamed Bd.named
  have hnm := (name_of_methodNamed Bd.named Bd.method).1
  have X0 : Stand p l e ({ frames := 2, cells := 0, slots := 0, locals := 28 } : Room) s m #[(.ref rp), (.ref se), (.ref so)] below meth c s₁ [] 0 0 := Stand.of_body Bd
  have e0 : s₁.heap = h0 := by rw [← hh, Bd.state]; rfl
  have N0 := Fr.nil n0
  have pre0 : ∀ t, Steps p.tables e below (s₁.setTop (mkF m 0 #[rv rp, rv se, rv so] [])) t → Steps p.tables e below (s₁.setTop (entryFrame m #[(.ref rp), (.ref se), (.ref so)] 3)) t := fun t k => castTop (ef_26 m rp se so) k
  have K0 : Keep h0 h0 [rp, ls, ed] := Keep.refl h0 [rp, ls, ed]
  have E1454 := own_str_exa Fb0
  have E1455 := own_str_exa Fb1
  have ne_so_rp : so ≠ rp := Nat.ne_of_lt (Nat.lt_of_lt_of_le (own_str_lt Fb0) zF_rp)
  have ne_so_ls : so ≠ ls := Nat.ne_of_lt (Nat.lt_of_lt_of_le (own_str_lt Fb0) zF_ls)
  have ne_so_ed : so ≠ ed := Nat.ne_of_lt (Nat.lt_of_lt_of_le (own_str_lt Fb0) zF_ed)
  have ne_se_rp : se ≠ rp := Nat.ne_of_lt (Nat.lt_of_lt_of_le (own_str_lt Fb1) zF_rp)
  have ne_se_ls : se ≠ ls := Nat.ne_of_lt (Nat.lt_of_lt_of_le (own_str_lt Fb1) zF_ls)
  have ne_se_ed : se ≠ ed := Nat.ne_of_lt (Nat.lt_of_lt_of_le (own_str_lt Fb1) zF_ed)
  have pre1456 : ∀ t, Steps p.tables e below (s₁.setTop (mkF m 1 #[rv rp, rv se, rv so] [(.ref rp)])) t → Steps p.tables e below (s₁.setTop (entryFrame m #[(.ref rp), (.ref se), (.ref so)] 3)) t := fun t kt => by
    refine pre0 _ ?_
    show Steps p.tables e below (s₁.setTop (mkF m 0 #[rv rp, rv se, rv so] [])) _
    refine XS.aloadN X0.here hx rfl (hb hby d18_0) rfl rfl ?_
    exact kt
  obtain ⟨T1457, X1457, e1457, st1457⟩ := getF X0 hx hZ hown (host := "") (Or.inl (W 80 rfl)) Via.refl e0 Fi1 (g := (mkF m 1 #[rv rp, rv se, rv so] [(.ref rp)])) rfl rfl (hb hby d18_1)
  have pre1458 : ∀ t, Steps p.tables e below (T1457.setTop (mkF m 4 #[rv rp, rv se, rv so] [(.ref ls)])) t → Steps p.tables e below (s₁.setTop (entryFrame m #[(.ref rp), (.ref se), (.ref so)] 3)) t := fun t kt => pre1456 _ (st1457 _ kt)
  have pre1459 : ∀ t, Steps p.tables e below (T1457.setTop (mkF m 5 #[rv rp, rv se, rv so] [(.ref so), (.ref ls)])) t → Steps p.tables e below (s₁.setTop (entryFrame m #[(.ref rp), (.ref se), (.ref so)] 3)) t := fun t kt => by
    refine pre1458 _ ?_
    show Steps p.tables e below (T1457.setTop (mkF m 4 #[rv rp, rv se, rv so] [(.ref ls)])) _
    refine XS.aloadN X1457.here hx rfl (hb hby d18_4) rfl rfl ?_
    exact kt
  obtain ⟨cq1460, kq1460, q1460a, q1460b, q1460c⟩ := isOf hZ e1457 Fi3
  obtain ⟨_, _, ⟨T1460, L1460, k1460, n1460⟩, -, X1460, ⟨Lc1460, hQ1460, l1460, y1460, z1460⟩, st1460⟩ := X1457.interfaceBack hx (xi := (⟨"java/util/List", "add", "(Ljava/lang/Object;)Z"⟩ : MethodName)) (y := (⟨"java/util/ArrayList", "add", "(Ljava/lang/Object;)Z"⟩ : MethodName)) hown (mvT hZ (W 94 rfl)) (mvT hZ (W 95 rfl)) (mvT hZ (W 96 rfl)) (mvT hZ (W 97 rfl)) (mvT hZ (W 98 rfl)) (mvT hZ (W 99 rfl)) (mvT hZ (W 100 rfl)) (mvT hZ (W 101 rfl)) (by decide) (backOf (W := 0) (rm_add19_1 l Z a0 hw [] ls so mc ed v0 ked h0 n0 O0 g_ls g_ed Fi3 Fi4 Fi5 Fi6 Fi7 Fi8 Fi9 (E1454.ext XF0) (fun q => qm2 q.symm)) hZ (W 102 rfl) (W 58 rfl) (by decide) (by decide)) q1460a q1460b q1460c (g := (mkF m 5 #[rv rp, rv se, rv so] [(.ref so), (.ref ls)])) rfl (by rw [hml]; rfl) (Steps.refl _) (argsL := [(.ref so)]) (rest := []) (lenOf pd_38 rfl) rfl (by show 2 * 0 + _ ≤ _; exact Nat.le_of_eq rfl) (hb hby d18_5) (fun _ _ => ⟨rfl, e1457, (by decide : 0 + 0 ≤ _), (by decide : 0 + 0 ≤ _)⟩)
  dsimp only [Pt.U, Pt.locs, Pt.cells, Pt.slots] at X1460 l1460 y1460 z1460 st1460 hQ1460
  replace l1460 := l1460.symm
  replace y1460 : 0 = k1460 := y1460.symm
  replace z1460 : 0 = n1460 := z1460.symm
  subst l1460 y1460 z1460
  obtain ⟨rfl, M1460, Kc1460, O1460, J1460_0, J1460_1, J1460_2, J1460_3, J1460_4, J1460_5⟩ := hQ1460
  obtain ⟨h1460, e1460⟩ : ∃ z, T1460.heap = z := ⟨_, rfl⟩
  rw [e1460] at Kc1460 O1460 J1460_0 J1460_1 J1460_2 J1460_3 J1460_4 J1460_5
  have N1460 := Fr.app N0 M1460
  have K1460 : Keep h0 h1460 [rp, ls, ed] := K0.trans Kc1460 (own_all2 (Or.inl (List.mem_of_getElem? (i := 1) rfl)) (Or.inl (List.mem_of_getElem? (i := 2) rfl)))
  have pre1661 : ∀ t, Steps p.tables e below (T1460.setTop (mkF m 10 #[rv rp, rv se, rv so] [(.int (1 : Int32))])) t → Steps p.tables e below (s₁.setTop (entryFrame m #[(.ref rp), (.ref se), (.ref so)] 3)) t := fun t kt => pre1459 _ (st1460.trans kt)
  have XF1662 : Ext hF h1460 := own_ext_keep XF0 Kc1460 (own_all2 zF_ls zF_ed)
  have F1663 := Fi0.keep Kc1460
  have F1664 := Fi1.keep Kc1460 (own_nm2 qm0 qm1)
  have F1665 := Fi2.keep Kc1460 (own_nm2 qm0 qm1)
  have pre1666 : ∀ t, Steps p.tables e below (T1460.setTop (mkF m 13 #[rv rp, rv se, rv so] [(.ref se), (.ref so)])) t → Steps p.tables e below (s₁.setTop (entryFrame m #[(.ref rp), (.ref se), (.ref so)] 3)) t := fun t kt => by
    refine pre1661 _ ?_
    show Steps p.tables e below (T1460.setTop (mkF m 10 #[rv rp, rv se, rv so] [(.int (1 : Int32))])) _
    refine XS.pop X1460.here hx rfl (hb hby d18_10) rfl rfl ?_
    refine XS.aloadN X1460.here hx rfl (hb hby d18_11) rfl rfl ?_
    refine XS.aloadN X1460.here hx rfl (hb hby d18_12) rfl rfl ?_
    exact kt
  obtain ⟨cq1667, kq1667, q1667a, q1667b, q1667c⟩ := isOf hZ e1460 (E1454.ext XF1662)
  obtain ⟨_, _, ⟨T1667, L1667, k1667, n1667⟩, -, X1667, ⟨Lc1667, hQ1667, l1667, y1667, z1667⟩, st1667⟩ := X1460.virtualBack hx (y := (⟨"java/lang/String", "equals", "(Ljava/lang/Object;)Z"⟩ : MethodName)) (z := (⟨"java/lang/String", "equals", "(Ljava/lang/Object;)Z"⟩ : MethodName)) hown (mvT hZ (W 129 rfl)) (mvT hZ (W 130 rfl)) (notFace_of_selects (args := #[]) (mvT hZ (W 132 rfl))) (mvT hZ (W 132 rfl)) (mvT hZ (W 131 rfl)) (by decide) (backOf (W := 0) (rm_equals l Z a0 hw [] so se cz b1 c0 c1 b2 d0 d1 h1460 n0 O1460 G0 (own_str_ext Fb0 XF1662) (own_str_ext Fb1 XF1662) qz qn) hZ (W 133 rfl) (W 9 rfl) (by decide) (by decide)) q1667a q1667c (g := (mkF m 13 #[rv rp, rv se, rv so] [(.ref se), (.ref so)])) rfl (by rw [hml]; rfl) (Steps.refl _) (argsL := [(.ref se)]) (rest := []) (lenOf pd_38 rfl) rfl (by show 2 * 0 + _ ≤ _; exact Nat.le_of_eq rfl) (hb hby d18_13) (fun _ _ => ⟨rfl, e1460, (by decide : 0 + 0 ≤ _), (by decide : 0 + 0 ≤ _)⟩)
  dsimp only [Pt.U, Pt.locs, Pt.cells, Pt.slots] at X1667 l1667 y1667 z1667 st1667 hQ1667
  replace l1667 := l1667.symm
  replace y1667 : 0 = k1667 := y1667.symm
  replace z1667 : 0 = n1667 := z1667.symm
  subst l1667 y1667 z1667
  obtain ⟨rfl, M1667, e1667⟩ := hQ1667
  have N1667 := Fr.app N1460 M1667
  have pre1668 : ∀ t, Steps p.tables e below (T1667.setTop (mkF m 16 #[rv rp, rv se, rv so] [(.int (own_eqv (own_cs b1 c0 c1) (own_cs b2 d0 d1)))])) t → Steps p.tables e below (s₁.setTop (entryFrame m #[(.ref rp), (.ref se), (.ref so)] 3)) t := fun t kt => pre1666 _ (st1667.trans kt)
  by_cases hc1669 : (own_eqv (own_cs b1 c0 c1) (own_cs b2 d0 d1)) = (0 : Int32)
  · have pre1670 : ∀ t, Steps p.tables e below (T1667.setTop (mkF m 21 #[rv rp, rv se, rv so] [(.int (1 : Int32)), (.ref rp)])) t → Steps p.tables e below (s₁.setTop (entryFrame m #[(.ref rp), (.ref se), (.ref so)] 3)) t := fun t kt => by
      refine pre1668 _ ?_
      show Steps p.tables e below (T1667.setTop (mkF m 16 #[rv rp, rv se, rv so] [(.int (own_eqv (own_cs b1 c0 c1) (own_cs b2 d0 d1)))])) _
      refine XS.ifNo X1667.here hx rfl (hb hby d18_16) rfl (XT.i0_ne_f hc1669) ?_
      refine XS.aloadN X1667.here hx rfl (hb hby d18_19) rfl rfl ?_
      refine XS.iconst X1667.here hx rfl (hb hby d18_20) ?_
      exact kt
    obtain ⟨T1671, h1671, X1671, e1671, W1671, st1671⟩ := putFN X1667 hx hZ hown (W 87 rfl) Via.refl e1667 F1665 F1663 (Or.inl (W 88 rfl)) (W 50 rfl) (ty := .boolean) (v' := (.int (1 : Int32))) (by decide) rfl rfl (g := (mkF m 21 #[rv rp, rv se, rv so] [(.int (1 : Int32)), (.ref rp)])) rfl rfl (hb hby d18_21)
    have pre1672 : ∀ t, Steps p.tables e below (T1671.setTop (mkF m 24 #[rv rp, rv se, rv so] [])) t → Steps p.tables e below (s₁.setTop (entryFrame m #[(.ref rp), (.ref se), (.ref so)] 3)) t := fun t kt => pre1670 _ (st1671 _ kt)
    have N1671 := Fr.snoc X1671 N1667 g_rp
    have O1671 := O1460.wr W1671 g_rp
    have K1671 : Keep h0 h1671 [rp, ls, ed] := K1460.wr W1671 (Or.inl (List.mem_of_getElem? (i := 0) rfl))
    have XF1673 : Ext hF h1671 := own_ext_wr XF1662 W1671 zF_rp
    have F1674 := F1663.wr W1671
    have F1675 := F1664.other W1671 (Or.inr (slot_ne (Or.inr (W 81 rfl)) (Or.inl (W 88 rfl)) (by decide) (t := (.object "java/util/List")) (t' := .boolean) (by decide) (by decide)))
    have F1676 := J1460_0.wr W1671
    have F1677 := J1460_1.other W1671 (Or.inl (fun q => qm0 q.symm))
    have F1678 := J1460_2.wr W1671
    have F1679 := J1460_3.other W1671 (Or.inl (fun q => qm0 q.symm))
    have F1680 := J1460_4.other W1671 (fun q => qm1 q.symm)
    have F1681 := J1460_5.other W1671 (Or.inl (fun q => qm0 q.symm))
    have F1682 : Fld Z h1671 rp "com/example/homethread/homethread/cli/ScenarioReport" "differs" "Z" (.int (1 : Int32)) := F1665.same W1671
    have F1683 : Fld Z h1671 rp "com/example/homethread/homethread/cli/ScenarioReport" "differs" "Z" (.int (own_dif df (own_eqv (own_cs b1 c0 c1) (own_cs b2 d0 d1)))) := (by rw [show (own_dif df (own_eqv (own_cs b1 c0 c1) (own_cs b2 d0 d1))) = (1 : Int32) from own_dif0 hc1669]; exact F1682)
    obtain ⟨fs, hr, hrun, hended, hW, hsame⟩ := X1671.leave (v := none) (fun _ => rfl)
    refine ⟨_, _, pre1672 _ (X1671.returnOut hx Bd.returns (hb hby d18_24) hr), hrun, hended, _, _, rfl, ?_, ⟨_, rfl⟩, hW, hsame.mono (by decide) (by decide)⟩
    show Q_line1 Z rp se so cz ad kd ls mc df b1 c0 c1 b2 d0 d1 ed ked v0 h0 n0 _ T1671.heap _
    rw [e1671]
    exact ⟨rfl, N1671, K1671, O1671, F1674, F1675, F1683, F1676, F1679, F1677, F1681, F1678, F1680, Fi9⟩
  · have pre1684 : ∀ t, Steps p.tables e below (T1667.setTop (mkF m 24 #[rv rp, rv se, rv so] [])) t → Steps p.tables e below (s₁.setTop (entryFrame m #[(.ref rp), (.ref se), (.ref so)] 3)) t := fun t kt => by
      refine pre1668 _ ?_
      show Steps p.tables e below (T1667.setTop (mkF m 16 #[rv rp, rv se, rv so] [(.int (own_eqv (own_cs b1 c0 c1) (own_cs b2 d0 d1)))])) _
      refine XS.ifYes X1667.here hx rfl (pc0 := 16) (pc' := 24) rfl (hb hby d18_16) rfl (XT.i0_ne_t hc1669) (by decide) (by decide) ?_
      exact kt
    have F1685 : Fld Z h1460 rp "com/example/homethread/homethread/cli/ScenarioReport" "differs" "Z" (.int (own_dif df (own_eqv (own_cs b1 c0 c1) (own_cs b2 d0 d1)))) := (by rw [show (own_dif df (own_eqv (own_cs b1 c0 c1) (own_cs b2 d0 d1))) = df from own_dif1 hc1669]; exact F1665)
    obtain ⟨fs, hr, hrun, hended, hW, hsame⟩ := X1667.leave (v := none) (fun _ => rfl)
    refine ⟨_, _, pre1684 _ (X1667.returnOut hx Bd.returns (hb hby d18_24) hr), hrun, hended, _, _, rfl, ?_, ⟨_, rfl⟩, hW, hsame.mono (by decide) (by decide)⟩
    show Q_line1 Z rp se so cz ad kd ls mc df b1 c0 c1 b2 d0 d1 ed ked v0 h0 n0 _ T1667.heap _
    rw [e1667]
    exact ⟨rfl, N1667, K1460, O1460, F1663, F1664, F1685, J1460_0, J1460_3, J1460_1, J1460_5, J1460_2, J1460_4, Fi9⟩
def Q_add20_2 (Z : State) (ls : Addr) (so : Addr) (ed : Addr) (v0 : Value) (v1 : Value) (ked : ClassId) (mc : Int32) (h0 : Heap) (n0 : Nat) (v : Option Value) (h : Heap) (L : List Loc) : Prop := v = none ∧ Fr n0 L ∧ Keep h0 h [ls, ed] ∧ Old Z n0 h ∧ Exa Z h ls "java/util/ArrayList" ∧ Fld Z h ls "java/util/ArrayList" "elementData" "[Ljava/lang/Object;" (.ref ed) ∧ Exa Z h ed "[Ljava/lang/Object;" ∧ Fld Z h ls "java/util/AbstractList" "modCount" "I" (.int (mc + (1 : Int32))) ∧ Arv Z h ed ked (.object "java/lang/Object") (10 : Int32) [v0, v1, (.ref so), .null, .null, .null, .null, .null, .null, .null] .null ∧ Fld Z h ls "java/util/ArrayList" "size" "I" (.int (3 : Int32))
set_option maxRecDepth 65536 in
set_option maxHeartbeats 40000000 in
theorem rm_add20_2 (l : Launch) (Z : State) (a0 : Array Value) (hw : ∀ d ∈ tables_1, d.before a0 Z = true) (ws : List Jvm.Cond) (ls : Addr) (so : Addr) (ed : Addr) (v0 : Value) (v1 : Value) (ked : ClassId) (mc : Int32) (h0 : Heap) (n0 : Nat) (O0 : Old Z n0 h0) (g_ls : n0 ≤ ls) (g_ed : n0 ≤ ed) (Fi0 : Exa Z h0 ls "java/util/ArrayList") (Fi1 : Fld Z h0 ls "java/util/ArrayList" "elementData" "[Ljava/lang/Object;" (.ref ed)) (Fi2 : Fld Z h0 ls "java/util/ArrayList" "size" "I" (.int (2 : Int32))) (Fi3 : Exa Z h0 ed "[Ljava/lang/Object;") (Fi4 : Arv Z h0 ed ked (.object "java/lang/Object") (10 : Int32) [v0, v1, .null, .null, .null, .null, .null, .null, .null, .null] .null) (Fi5 : Ovr Z ked "java/lang/Object") (Fi6 : Exa Z h0 so "java/lang/String") (Fi7 : Fld Z h0 ls "java/util/AbstractList" "modCount" "I" (.int (mc + (1 : Int32)))) (q0 : ¬ (ed = ls)) :
    MetFree l (⟨"java/util/ArrayList", "add", "(Ljava/lang/Object;[Ljava/lang/Object;I)V"⟩ : MethodName) (head1 (Jvm.Cond.code (⟨"java/util/ArrayList", "add", "(Ljava/lang/Object;[Ljava/lang/Object;I)V"⟩ : MethodName) jdk_38_method_24_code 4 none :: ws) ({ frames := 0, cells := 0, slots := 0, locals := 0 } : Room)) (fun a U => a = #[(.ref ls), (.ref so), (.ref ed), (.int (2 : Int32))] ∧ Z.Warmed39 U.vm ∧ U.heap = h0) (fun _ _ _ _ _ => True) (fun _ U o U' => ∃ v L, o = .returned v ∧ Q_add20_2 Z ls so ed v0 v1 ked mc h0 n0 v U'.heap L ∧ FrameEnd U o U' L ({ frames := 0, cells := 0, slots := 0, locals := 0 } : Room).cells ({ frames := 0, cells := 0, slots := 0, locals := 0 } : Room).slots) := by
  refine MetFree.of_bodySF (plainFor_of_name pn_30) hisR ?_
  intro p e s m args below meth c s₁ Bd hml0 hP hK
  have W := fun {d : Jvm.Cond} (i : Nat) (q : tables_1[i]? = some d) => hw d (List.mem_of_getElem? q)
  obtain ⟨rfl, hZ, hh⟩ := hP
  have hx := Bd.exec
  have hby := Bd.bytes
  have hml : c.maxLocals = 4 := hml0
  have hown : s.vm.findClass "java/util/ArrayList" = some m.cls := findClass_of_methodNamed Bd.named
  have hnm := (name_of_methodNamed Bd.named Bd.method).1
  have X0 : Stand p l e ({ frames := 0, cells := 0, slots := 0, locals := 0 } : Room) s m #[(.ref ls), (.ref so), (.ref ed), (.int (2 : Int32))] below meth c s₁ [] 0 0 := Stand.of_body Bd
  have e0 : s₁.heap = h0 := by rw [← hh, Bd.state]; rfl
  have N0 := Fr.nil n0
  have pre0 : ∀ t, Steps p.tables e below (s₁.setTop (mkF m 0 #[rv ls, rv so, rv ed, iv (2 : Int32)] [])) t → Steps p.tables e below (s₁.setTop (entryFrame m #[(.ref ls), (.ref so), (.ref ed), (.int (2 : Int32))] 4)) t := fun t k => castTop (ef_35 m ls so ed (2 : Int32)) k
  have K0 : Keep h0 h0 [ls, ed] := Keep.refl h0 [ls, ed]
  have pre1795 : ∀ t, Steps p.tables e below (s₁.setTop (mkF m 2 #[rv ls, rv so, rv ed, iv (2 : Int32)] [(.ref ed), (.int (2 : Int32))])) t → Steps p.tables e below (s₁.setTop (entryFrame m #[(.ref ls), (.ref so), (.ref ed), (.int (2 : Int32))] 4)) t := fun t kt => by
    refine pre0 _ ?_
    show Steps p.tables e below (s₁.setTop (mkF m 0 #[rv ls, rv so, rv ed, iv (2 : Int32)] [])) _
    refine XS.iloadN X0.here hx rfl (hb hby d20_0) rfl ?_
    refine XS.aloadN X0.here hx rfl (hb hby d20_1) rfl rfl ?_
    exact kt
  obtain ⟨c1794, Ar1794, -, S1794, M1794, -, -⟩ := id Fi4
  have pre1796 : ∀ t, Steps p.tables e below (s₁.setTop (mkF m 14 #[rv ls, rv so, rv ed, iv (2 : Int32)] [(.ref so), (.int (2 : Int32)), (.ref ed)])) t → Steps p.tables e below (s₁.setTop (entryFrame m #[(.ref ls), (.ref so), (.ref ed), (.int (2 : Int32))] 4)) t := fun t kt => by
    refine pre1795 _ ?_
    show Steps p.tables e below (s₁.setTop (mkF m 2 #[rv ls, rv so, rv ed, iv (2 : Int32)] [(.ref ed), (.int (2 : Int32))])) _
    refine X0.arraylength hx (by rw [e0]; exact Ar1794.1) (State.isArrayOf_alike hZ.alike Ar1794.2.1) (g := (mkF m 2 #[rv ls, rv so, rv ed, iv (2 : Int32)] [(.ref ed), (.int (2 : Int32))])) rfl rfl (hb hby d20_2) _ ?_
    rw [len_of S1794 M1794]
    refine XS.icmpYes X0.here hx rfl (pc0 := 3) (pc' := 11) rfl (hb hby d20_3) rfl (XT.ii_ne_t (by decide)) (by decide) (by decide) ?_
    refine XS.aloadN X0.here hx rfl (hb hby d20_11) rfl rfl ?_
    refine XS.iloadN X0.here hx rfl (hb hby d20_12) rfl ?_
    refine XS.aloadN X0.here hx rfl (hb hby d20_13) rfl rfl ?_
    exact kt
  obtain ⟨c1797, Ar1797, q1797, S1797, M1797, H1797, G1797⟩ := id Fi4
  have i1797 : ¬ ((2 : Int32) < 0 ∨ c1797.slots.size ≤ ((2 : Int32)).toNatClampNeg) := inb_of S1797 ⟨by decide, by decide⟩
  obtain ⟨T1798, h1798, X1798, e1798, W1798, st1798⟩ := stR X0 hx hZ e0 Ar1797 (j := (2 : Int32)) i1797 rfl (Sto.ofV Ar1797 q1797 Fi5 (Ins.of_exa Fi6 (W 128 rfl))) (g := (mkF m 14 #[rv ls, rv so, rv ed, iv (2 : Int32)] [(.ref so), (.int (2 : Int32)), (.ref ed)])) rfl rfl (hb hby d20_14)
  have pre1799 : ∀ t, Steps p.tables e below (T1798.setTop (mkF m 15 #[rv ls, rv so, rv ed, iv (2 : Int32)] [])) t → Steps p.tables e below (s₁.setTop (entryFrame m #[(.ref ls), (.ref so), (.ref ed), (.int (2 : Int32))] 4)) t := fun t kt => pre1796 _ (st1798 _ kt)
  have N1798 := Fr.snoc X1798 N0 g_ed
  have O1798 := O0.wr W1798 g_ed
  have K1798 : Keep h0 h1798 [ls, ed] := K0.wr W1798 (Or.inl (List.mem_of_getElem? (i := 1) rfl))
  have F1800 := Fi0.wr W1798
  have F1801 := Fi1.other W1798 (Or.inl (fun q => q0 q.symm))
  have F1802 := Fi2.other W1798 (Or.inl (fun q => q0 q.symm))
  have F1803 := Fi3.wr W1798
  have F1804 := Fi6.wr W1798
  have F1805 := Fi7.other W1798 (Or.inl (fun q => q0 q.symm))
  have F1806 : Arv Z h1798 ed ked (.object "java/lang/Object") (10 : Int32) [v0, v1, (.ref so), .null, .null, .null, .null, .null, .null, .null] .null := Arv.set Ar1797 q1797 S1797 M1797 H1797 G1797 rfl W1798 2 rfl (Nat.le_of_ble_eq_true rfl)
  have pre1807 : ∀ t, Steps p.tables e below (T1798.setTop (mkF m 19 #[rv ls, rv so, rv ed, iv (2 : Int32)] [(.int (3 : Int32)), (.ref ls)])) t → Steps p.tables e below (s₁.setTop (entryFrame m #[(.ref ls), (.ref so), (.ref ed), (.int (2 : Int32))] 4)) t := fun t kt => by
    refine pre1799 _ ?_
    show Steps p.tables e below (T1798.setTop (mkF m 15 #[rv ls, rv so, rv ed, iv (2 : Int32)] [])) _
    refine XS.aloadN X1798.here hx rfl (hb hby d20_15) rfl rfl ?_
    refine XS.iloadN X1798.here hx rfl (hb hby d20_16) rfl ?_
    refine XS.iconst X1798.here hx rfl (hb hby d20_17) ?_
    refine XS.iadd X1798.here hx rfl (hb hby d20_18) rfl ?_
    show  Steps p.tables e below (T1798.setTop (mkF m 19 #[rv ls, rv so, rv ed, iv (2 : Int32)] [(.int ((2 : Int32) + (1 : Int32))), (.ref ls)])) _
    rw [(by decide : (((2 : Int32) + (1 : Int32)) : Int32) = (3 : Int32))]
    exact kt
  obtain ⟨T1808, h1808, X1808, e1808, W1808, st1808⟩ := putF X1798 hx hZ hown (host := "") (Or.inl (W 105 rfl)) Via.refl e1798 F1802 F1800 (Or.inl (W 106 rfl)) (W 57 rfl) (ty := .int) (by decide) rfl rfl (g := (mkF m 19 #[rv ls, rv so, rv ed, iv (2 : Int32)] [(.int (3 : Int32)), (.ref ls)])) rfl rfl (hb hby d20_19)
  have pre1809 : ∀ t, Steps p.tables e below (T1808.setTop (mkF m 22 #[rv ls, rv so, rv ed, iv (2 : Int32)] [])) t → Steps p.tables e below (s₁.setTop (entryFrame m #[(.ref ls), (.ref so), (.ref ed), (.int (2 : Int32))] 4)) t := fun t kt => pre1807 _ (st1808 _ kt)
  have N1808 := Fr.snoc X1808 N1798 g_ls
  have O1808 := O1798.wr W1808 g_ls
  have K1808 : Keep h0 h1808 [ls, ed] := K1798.wr W1808 (Or.inl (List.mem_of_getElem? (i := 0) rfl))
  have F1810 := F1800.wr W1808
  have F1811 := F1801.other W1808 (Or.inr (slot_ne (Or.inl (W 79 rfl)) (Or.inl (W 106 rfl)) (by decide) (t := (.array (.object "java/lang/Object"))) (t' := .int) (by decide) (by decide)))
  have F1812 := F1803.wr W1808
  have F1813 := F1804.wr W1808
  have F1814 := F1805.other W1808 (Or.inr (slot_ne (Or.inl (W 76 rfl)) (Or.inl (W 106 rfl)) (by decide) (t := .int) (t' := .int) (by decide) (by decide)))
  have F1815 := F1806.other W1808 q0
  have F1816 : Fld Z h1808 ls "java/util/ArrayList" "size" "I" (.int (3 : Int32)) := F1802.same W1808
  obtain ⟨fs, hr, hrun, hended, hW, hsame⟩ := X1808.leave (v := none) (fun _ => rfl)
  refine ⟨_, _, pre1809 _ (X1808.returnOut hx Bd.returns (hb hby d20_22) hr), hrun, hended, _, _, rfl, ?_, ⟨_, rfl⟩, hW, hsame.mono (by decide) (by decide)⟩
  show Q_add20_2 Z ls so ed v0 v1 ked mc h0 n0 _ T1808.heap _
  rw [e1808]
  exact ⟨rfl, N1808, K1808, O1808, F1810, F1811, F1812, F1814, F1815, F1816⟩
def Q_add19_2 (Z : State) (ls : Addr) (so : Addr) (mc : Int32) (ed : Addr) (v0 : Value) (v1 : Value) (ked : ClassId) (h0 : Heap) (n0 : Nat) (v : Option Value) (h : Heap) (L : List Loc) : Prop := v = some (.int (1 : Int32)) ∧ Fr n0 L ∧ Keep h0 h [ls, ed] ∧ Old Z n0 h ∧ Exa Z h ls "java/util/ArrayList" ∧ Fld Z h ls "java/util/ArrayList" "elementData" "[Ljava/lang/Object;" (.ref ed) ∧ Exa Z h ed "[Ljava/lang/Object;" ∧ Fld Z h ls "java/util/AbstractList" "modCount" "I" (.int (mc + (1 : Int32))) ∧ Arv Z h ed ked (.object "java/lang/Object") (10 : Int32) [v0, v1, (.ref so), .null, .null, .null, .null, .null, .null, .null] .null ∧ Fld Z h ls "java/util/ArrayList" "size" "I" (.int (3 : Int32))
set_option maxRecDepth 65536 in
set_option maxHeartbeats 40000000 in
theorem rm_add19_2 (l : Launch) (Z : State) (a0 : Array Value) (hw : ∀ d ∈ tables_1, d.before a0 Z = true) (ws : List Jvm.Cond) (ls : Addr) (so : Addr) (mc : Int32) (ed : Addr) (v0 : Value) (v1 : Value) (ked : ClassId) (h0 : Heap) (n0 : Nat) (O0 : Old Z n0 h0) (g_ls : n0 ≤ ls) (g_ed : n0 ≤ ed) (Fi0 : Exa Z h0 ls "java/util/ArrayList") (Fi1 : Fld Z h0 ls "java/util/AbstractList" "modCount" "I" (.int mc)) (Fi2 : Fld Z h0 ls "java/util/ArrayList" "elementData" "[Ljava/lang/Object;" (.ref ed)) (Fi3 : Fld Z h0 ls "java/util/ArrayList" "size" "I" (.int (2 : Int32))) (Fi4 : Exa Z h0 ed "[Ljava/lang/Object;") (Fi5 : Arv Z h0 ed ked (.object "java/lang/Object") (10 : Int32) [v0, v1, .null, .null, .null, .null, .null, .null, .null, .null] .null) (Fi6 : Ovr Z ked "java/lang/Object") (Fi7 : Exa Z h0 so "java/lang/String") (q0 : ¬ (ed = ls)) :
    MetFree l (⟨"java/util/ArrayList", "add", "(Ljava/lang/Object;)Z"⟩ : MethodName) (head1 (Jvm.Cond.code (⟨"java/util/ArrayList", "add", "(Ljava/lang/Object;)Z"⟩ : MethodName) jdk_38_method_25_code 2 (some .boolean) :: ws) ({ frames := 1, cells := 0, slots := 0, locals := 15 } : Room)) (fun a U => a = #[(.ref ls), (.ref so)] ∧ Z.Warmed39 U.vm ∧ U.heap = h0) (fun _ _ _ _ _ => True) (fun _ U o U' => ∃ v L, o = .returned v ∧ Q_add19_2 Z ls so mc ed v0 v1 ked h0 n0 v U'.heap L ∧ FrameEnd U o U' L ({ frames := 1, cells := 0, slots := 0, locals := 15 } : Room).cells ({ frames := 1, cells := 0, slots := 0, locals := 15 } : Room).slots) := by
  refine MetFree.of_bodySF (plainFor_of_name pn_30) hisR ?_
  intro p e s m args below meth c s₁ Bd hml0 hP hK
  have W := fun {d : Jvm.Cond} (i : Nat) (q : tables_1[i]? = some d) => hw d (List.mem_of_getElem? q)
  obtain ⟨rfl, hZ, hh⟩ := hP
  have hx := Bd.exec
  have hby := Bd.bytes
  have hml : c.maxLocals = 2 := hml0
  have hown : s.vm.findClass "java/util/ArrayList" = some m.cls := findClass_of_methodNamed Bd.named
  have hnm := (name_of_methodNamed Bd.named Bd.method).1
  have X0 : Stand p l e ({ frames := 1, cells := 0, slots := 0, locals := 15 } : Room) s m #[(.ref ls), (.ref so)] below meth c s₁ [] 0 0 := Stand.of_body Bd
  have e0 : s₁.heap = h0 := by rw [← hh, Bd.state]; rfl
  have N0 := Fr.nil n0
  have pre0 : ∀ t, Steps p.tables e below (s₁.setTop (mkF m 0 #[rv ls, rv so] [])) t → Steps p.tables e below (s₁.setTop (entryFrame m #[(.ref ls), (.ref so)] 2)) t := fun t k => castTop (ef_37 m ls so) k
  have K0 : Keep h0 h0 [ls, ed] := Keep.refl h0 [ls, ed]
  have pre1870 : ∀ t, Steps p.tables e below (s₁.setTop (mkF m 2 #[rv ls, rv so] [(.ref ls), (.ref ls)])) t → Steps p.tables e below (s₁.setTop (entryFrame m #[(.ref ls), (.ref so)] 2)) t := fun t kt => by
    refine pre0 _ ?_
    show Steps p.tables e below (s₁.setTop (mkF m 0 #[rv ls, rv so] [])) _
    refine XS.aloadN X0.here hx rfl (hb hby d19_0) rfl rfl ?_
    refine XS.dup X0.here hx rfl (hb hby d19_1) rfl rfl ?_
    exact kt
  obtain ⟨T1871, X1871, e1871, st1871⟩ := getF X0 hx hZ hown (host := "") (Or.inl (W 103 rfl)) (Via.of (W 104 rfl)) e0 Fi1 (g := (mkF m 2 #[rv ls, rv so] [(.ref ls), (.ref ls)])) rfl rfl (hb hby d19_2)
  have pre1872 : ∀ t, Steps p.tables e below (T1871.setTop (mkF m 5 #[rv ls, rv so] [(.int mc), (.ref ls)])) t → Steps p.tables e below (s₁.setTop (entryFrame m #[(.ref ls), (.ref so)] 2)) t := fun t kt => pre1870 _ (st1871 _ kt)
  have pre1873 : ∀ t, Steps p.tables e below (T1871.setTop (mkF m 7 #[rv ls, rv so] [(.int (mc + (1 : Int32))), (.ref ls)])) t → Steps p.tables e below (s₁.setTop (entryFrame m #[(.ref ls), (.ref so)] 2)) t := fun t kt => by
    refine pre1872 _ ?_
    show Steps p.tables e below (T1871.setTop (mkF m 5 #[rv ls, rv so] [(.int mc), (.ref ls)])) _
    refine XS.iconst X1871.here hx rfl (hb hby d19_5) ?_
    refine XS.iadd X1871.here hx rfl (hb hby d19_6) rfl ?_
    exact kt
  obtain ⟨T1874, h1874, X1874, e1874, W1874, st1874⟩ := putF X1871 hx hZ hown (host := "") (Or.inl (W 103 rfl)) (Via.of (W 104 rfl)) e1871 Fi1 Fi0 (Or.inl (W 76 rfl)) (W 57 rfl) (ty := .int) (by decide) rfl rfl (g := (mkF m 7 #[rv ls, rv so] [(.int (mc + (1 : Int32))), (.ref ls)])) rfl rfl (hb hby d19_7)
  have pre1875 : ∀ t, Steps p.tables e below (T1874.setTop (mkF m 10 #[rv ls, rv so] [])) t → Steps p.tables e below (s₁.setTop (entryFrame m #[(.ref ls), (.ref so)] 2)) t := fun t kt => pre1873 _ (st1874 _ kt)
  have N1874 := Fr.snoc X1874 N0 g_ls
  have O1874 := O0.wr W1874 g_ls
  have K1874 : Keep h0 h1874 [ls, ed] := K0.wr W1874 (Or.inl (List.mem_of_getElem? (i := 0) rfl))
  have F1876 := Fi0.wr W1874
  have F1877 := Fi2.other W1874 (Or.inr (slot_ne (Or.inl (W 79 rfl)) (Or.inl (W 76 rfl)) (by decide) (t := (.array (.object "java/lang/Object"))) (t' := .int) (by decide) (by decide)))
  have F1878 := Fi3.other W1874 (Or.inr (slot_ne (Or.inl (W 106 rfl)) (Or.inl (W 76 rfl)) (by decide) (t := .int) (t' := .int) (by decide) (by decide)))
  have F1879 := Fi4.wr W1874
  have F1880 := Fi5.other W1874 q0
  have F1881 := Fi7.wr W1874
  have F1882 : Fld Z h1874 ls "java/util/AbstractList" "modCount" "I" (.int (mc + (1 : Int32))) := Fi1.same W1874
  have pre1883 : ∀ t, Steps p.tables e below (T1874.setTop (mkF m 13 #[rv ls, rv so] [(.ref ls), (.ref so), (.ref ls)])) t → Steps p.tables e below (s₁.setTop (entryFrame m #[(.ref ls), (.ref so)] 2)) t := fun t kt => by
    refine pre1875 _ ?_
    show Steps p.tables e below (T1874.setTop (mkF m 10 #[rv ls, rv so] [])) _
    refine XS.aloadN X1874.here hx rfl (hb hby d19_10) rfl rfl ?_
    refine XS.aloadN X1874.here hx rfl (hb hby d19_11) rfl rfl ?_
    refine XS.aloadN X1874.here hx rfl (hb hby d19_12) rfl rfl ?_
    exact kt
  obtain ⟨T1884, X1884, e1884, st1884⟩ := getF X1874 hx hZ hown (host := "") (Or.inl (W 78 rfl)) Via.refl e1874 F1877 (g := (mkF m 13 #[rv ls, rv so] [(.ref ls), (.ref so), (.ref ls)])) rfl rfl (hb hby d19_13)
  have pre1885 : ∀ t, Steps p.tables e below (T1884.setTop (mkF m 16 #[rv ls, rv so] [(.ref ed), (.ref so), (.ref ls)])) t → Steps p.tables e below (s₁.setTop (entryFrame m #[(.ref ls), (.ref so)] 2)) t := fun t kt => pre1883 _ (st1884 _ kt)
  have pre1886 : ∀ t, Steps p.tables e below (T1884.setTop (mkF m 17 #[rv ls, rv so] [(.ref ls), (.ref ed), (.ref so), (.ref ls)])) t → Steps p.tables e below (s₁.setTop (entryFrame m #[(.ref ls), (.ref so)] 2)) t := fun t kt => by
    refine pre1885 _ ?_
    show Steps p.tables e below (T1884.setTop (mkF m 16 #[rv ls, rv so] [(.ref ed), (.ref so), (.ref ls)])) _
    refine XS.aloadN X1884.here hx rfl (hb hby d19_16) rfl rfl ?_
    exact kt
  obtain ⟨T1887, X1887, e1887, st1887⟩ := getF X1884 hx hZ hown (host := "") (Or.inl (W 105 rfl)) Via.refl e1884 F1878 (g := (mkF m 17 #[rv ls, rv so] [(.ref ls), (.ref ed), (.ref so), (.ref ls)])) rfl rfl (hb hby d19_17)
  have pre1888 : ∀ t, Steps p.tables e below (T1887.setTop (mkF m 20 #[rv ls, rv so] [(.int (2 : Int32)), (.ref ed), (.ref so), (.ref ls)])) t → Steps p.tables e below (s₁.setTop (entryFrame m #[(.ref ls), (.ref so)] 2)) t := fun t kt => pre1886 _ (st1887 _ kt)
  obtain ⟨cq1889, q1889, q1889'⟩ := (F1876).cell
  obtain ⟨_, _, ⟨T1889, L1889, k1889, n1889⟩, -, X1889, ⟨Lc1889, hQ1889, l1889, y1889, z1889⟩, st1889⟩ := X1887.privateBack hx (y := (⟨"java/util/ArrayList", "add", "(Ljava/lang/Object;[Ljava/lang/Object;I)V"⟩ : MethodName)) hown (mvT hZ (W 107 rfl)) (mvT hZ (W 108 rfl)) (mvT hZ (W 110 rfl)) (Cond.privateMethod_at (mvP hZ (W 109 rfl) (args := #[]))) (mvT hZ (W 111 rfl)) (by decide) (backOf (W := 0) (rm_add20_2 l Z a0 hw [] ls so ed v0 v1 ked mc h1874 n0 O1874 g_ls g_ed F1876 F1877 F1878 F1879 F1880 Fi6 F1881 F1882 q0) hZ (W 111 rfl) (W 58 rfl) (by decide) (by decide)) (g := (mkF m 20 #[rv ls, rv so] [(.int (2 : Int32)), (.ref ed), (.ref so), (.ref ls)])) rfl (by rw [hml]; rfl) (Steps.refl _) (a := ls) (by rw [e1887]; exact q1889) q1889' (argsL := [(.ref so), (.ref ed), (.int (2 : Int32))]) (rest := []) (lenOf pd_36 rfl) rfl (by show 2 * 0 + _ ≤ _; exact Nat.le_of_eq rfl) (hb hby d19_20) (fun _ _ => ⟨rfl, e1887, (by decide : 0 + 0 ≤ _), (by decide : 0 + 0 ≤ _)⟩)
  dsimp only [Pt.U, Pt.locs, Pt.cells, Pt.slots] at X1889 l1889 y1889 z1889 st1889 hQ1889
  replace l1889 := l1889.symm
  replace y1889 : 0 = k1889 := y1889.symm
  replace z1889 : 0 = n1889 := z1889.symm
  subst l1889 y1889 z1889
  obtain ⟨rfl, M1889, Kc1889, O1889, J1889_0, J1889_1, J1889_2, J1889_3, J1889_4, J1889_5⟩ := hQ1889
  obtain ⟨h1889, e1889⟩ : ∃ z, T1889.heap = z := ⟨_, rfl⟩
  rw [e1889] at Kc1889 O1889 J1889_0 J1889_1 J1889_2 J1889_3 J1889_4 J1889_5
  have N1889 := Fr.app N1874 M1889
  have K1889 : Keep h0 h1889 [ls, ed] := K1874.trans Kc1889 (own_all2 (Or.inl (List.mem_of_getElem? (i := 0) rfl)) (Or.inl (List.mem_of_getElem? (i := 1) rfl)))
  have pre1890 : ∀ t, Steps p.tables e below (T1889.setTop (mkF m 23 #[rv ls, rv so] [])) t → Steps p.tables e below (s₁.setTop (entryFrame m #[(.ref ls), (.ref so)] 2)) t := fun t kt => pre1888 _ (st1889.trans kt)
  have F1891 := F1881.keep Kc1889
  have pre1892 : ∀ t, Steps p.tables e below (T1889.setTop (mkF m 24 #[rv ls, rv so] [(.int (1 : Int32))])) t → Steps p.tables e below (s₁.setTop (entryFrame m #[(.ref ls), (.ref so)] 2)) t := fun t kt => by
    refine pre1890 _ ?_
    show Steps p.tables e below (T1889.setTop (mkF m 23 #[rv ls, rv so] [])) _
    refine XS.iconst X1889.here hx rfl (hb hby d19_23) ?_
    exact kt
  obtain ⟨fs, hr, hrun, hended, hW, hsame⟩ := X1889.leave (v := some (.int (1 : Int32))) (fun h => by rw [Bd.returns] at h; cases h)
  refine ⟨_, _, pre1892 _ (retN X1889 hx (t := .boolean) Bd.returns (by simp) (hb hby d19_24) hr), hrun, hended, _, _, rfl, ?_, ⟨_, rfl⟩, hW, hsame.mono (by decide) (by decide)⟩
  show Q_add19_2 Z ls so mc ed v0 v1 ked h0 n0 _ T1889.heap _
  rw [e1889]
  exact ⟨rfl, N1889, K1889, O1889, J1889_0, J1889_1, J1889_2, J1889_3, J1889_4, J1889_5⟩
def Q_line2 (Z : State) (rp : Addr) (se : Addr) (so : Addr) (cz : Int32) (ad : Addr) (kd : ClassId) (ls : Addr) (mc : Int32) (df : Int32) (b1 : Int32) (c0 : Int32) (c1 : Int32) (b2 : Int32) (d0 : Int32) (d1 : Int32) (ed : Addr) (ked : ClassId) (v0 : Value) (v1 : Value) (h0 : Heap) (n0 : Nat) (v : Option Value) (h : Heap) (L : List Loc) : Prop := v = none ∧ Fr n0 L ∧ Keep h0 h [rp, ls, ed] ∧ Old Z n0 h ∧ Exa Z h rp "com/example/homethread/homethread/cli/ScenarioReport" ∧ Fld Z h rp "com/example/homethread/homethread/cli/ScenarioReport" "lines" "Ljava/util/List;" (.ref ls) ∧ Fld Z h rp "com/example/homethread/homethread/cli/ScenarioReport" "differs" "Z" (.int (own_dif df (own_eqv (own_cs b1 c0 c1) (own_cs b2 d0 d1)))) ∧ Exa Z h ls "java/util/ArrayList" ∧ Fld Z h ls "java/util/AbstractList" "modCount" "I" (.int (mc + (1 : Int32))) ∧ Fld Z h ls "java/util/ArrayList" "elementData" "[Ljava/lang/Object;" (.ref ed) ∧ Fld Z h ls "java/util/ArrayList" "size" "I" (.int (3 : Int32)) ∧ Exa Z h ed "[Ljava/lang/Object;" ∧ Arv Z h ed ked (.object "java/lang/Object") (10 : Int32) [v0, v1, (.ref so), .null, .null, .null, .null, .null, .null, .null] .null ∧ Ovr Z ked "java/lang/Object"
set_option maxRecDepth 65536 in
set_option maxHeartbeats 40000000 in
theorem rm_line2 (l : Launch) (Z : State) (a0 : Array Value) (hw : ∀ d ∈ tables_1, d.before a0 Z = true) (ws : List Jvm.Cond) (rp : Addr) (se : Addr) (so : Addr) (cz : Int32) (ad : Addr) (kd : ClassId) (ls : Addr) (mc : Int32) (df : Int32) (b1 : Int32) (c0 : Int32) (c1 : Int32) (b2 : Int32) (d0 : Int32) (d1 : Int32) (ed : Addr) (ked : ClassId) (v0 : Value) (v1 : Value) (h0 : Heap) (n0 : Nat) (O0 : Old Z n0 h0) (G0 : Sta Z Z.heap "java/lang/String" "COMPACT_STRINGS" "Z" (.int cz)) (G1 : Sta Z Z.heap "java/util/ArrayList" "DEFAULTCAPACITY_EMPTY_ELEMENTDATA" "[Ljava/lang/Object;" (.ref ad)) (G2 : Arv Z Z.heap ad kd (.object "java/lang/Object") (0 : Int32) [] .null) (G3 : Exa Z Z.heap ad "[Ljava/lang/Object;") (g_rp : n0 ≤ rp) (g_ls : n0 ≤ ls) (g_ed : n0 ≤ ed) (Fi0 : Exa Z h0 rp "com/example/homethread/homethread/cli/ScenarioReport") (Fi1 : Fld Z h0 rp "com/example/homethread/homethread/cli/ScenarioReport" "lines" "Ljava/util/List;" (.ref ls)) (Fi2 : Fld Z h0 rp "com/example/homethread/homethread/cli/ScenarioReport" "differs" "Z" (.int df)) (Fi3 : Exa Z h0 ls "java/util/ArrayList") (Fi4 : Fld Z h0 ls "java/util/AbstractList" "modCount" "I" (.int mc)) (Fi5 : Fld Z h0 ls "java/util/ArrayList" "elementData" "[Ljava/lang/Object;" (.ref ed)) (Fi6 : Fld Z h0 ls "java/util/ArrayList" "size" "I" (.int (2 : Int32))) (Fi7 : Exa Z h0 ed "[Ljava/lang/Object;") (Fi8 : Arv Z h0 ed ked (.object "java/lang/Object") (10 : Int32) [v0, v1, .null, .null, .null, .null, .null, .null, .null, .null] .null) (Fi9 : Ovr Z ked "java/lang/Object") (qz : ¬ (cz = (0 : Int32))) (qn : ¬ (so = se)) (qd : own_bit df) (qm0 : ¬ (rp = ls)) (qm1 : ¬ (rp = ed)) (qm2 : ¬ (ls = ed)) (hF : Heap) (XF0 : Ext hF h0) (Fb0 : own_str Z hF so b1 c0 c1) (Fb1 : own_str Z hF se b2 d0 d1) (zF_rp : hF.size ≤ rp) (zF_ls : hF.size ≤ ls) (zF_ed : hF.size ≤ ed) :
    MetFree l (⟨"com/example/homethread/homethread/cli/ScenarioReport", "expectLine", "(Ljava/lang/String;Ljava/lang/String;)V"⟩ : MethodName) (head1 (Jvm.Cond.code (⟨"com/example/homethread/homethread/cli/ScenarioReport", "expectLine", "(Ljava/lang/String;Ljava/lang/String;)V"⟩ : MethodName) prog_42_method_3_code 3 none :: ws) ({ frames := 2, cells := 0, slots := 0, locals := 28 } : Room)) (fun a U => a = #[(.ref rp), (.ref se), (.ref so)] ∧ Z.Warmed39 U.vm ∧ U.heap = h0) (fun _ _ _ _ _ => True) (fun _ U o U' => ∃ v L, o = .returned v ∧ Q_line2 Z rp se so cz ad kd ls mc df b1 c0 c1 b2 d0 d1 ed ked v0 v1 h0 n0 v U'.heap L ∧ FrameEnd U o U' L ({ frames := 2, cells := 0, slots := 0, locals := 28 } : Room).cells ({ frames := 2, cells := 0, slots := 0, locals := 28 } : Room).slots) := by
  refine MetFree.of_bodySF (plainFor_of_name pn_25) hisR ?_
  intro p e s m args below meth c s₁ Bd hml0 hP hK
  have W := fun {d : Jvm.Cond} (i : Nat) (q : tables_1[i]? = some d) => hw d (List.mem_of_getElem? q)
  obtain ⟨rfl, hZ, hh⟩ := hP
  have hx := Bd.exec
  have hby := Bd.bytes
  have hml : c.maxLocals = 3 := hml0
  have hown : s.vm.findClass "com/example/homethread/homethread/cli/ScenarioReport" = some m.cls := findClass_of_methodNamed Bd.named
  have hnm := (name_of_methodNamed Bd.named Bd.method).1
  have X0 : Stand p l e ({ frames := 2, cells := 0, slots := 0, locals := 28 } : Room) s m #[(.ref rp), (.ref se), (.ref so)] below meth c s₁ [] 0 0 := Stand.of_body Bd
  have e0 : s₁.heap = h0 := by rw [← hh, Bd.state]; rfl
  have N0 := Fr.nil n0
  have pre0 : ∀ t, Steps p.tables e below (s₁.setTop (mkF m 0 #[rv rp, rv se, rv so] [])) t → Steps p.tables e below (s₁.setTop (entryFrame m #[(.ref rp), (.ref se), (.ref so)] 3)) t := fun t k => castTop (ef_26 m rp se so) k
  have K0 : Keep h0 h0 [rp, ls, ed] := Keep.refl h0 [rp, ls, ed]
  have E1686 := own_str_exa Fb0
  have E1687 := own_str_exa Fb1
  have ne_so_rp : so ≠ rp := Nat.ne_of_lt (Nat.lt_of_lt_of_le (own_str_lt Fb0) zF_rp)
  have ne_so_ls : so ≠ ls := Nat.ne_of_lt (Nat.lt_of_lt_of_le (own_str_lt Fb0) zF_ls)
  have ne_so_ed : so ≠ ed := Nat.ne_of_lt (Nat.lt_of_lt_of_le (own_str_lt Fb0) zF_ed)
  have ne_se_rp : se ≠ rp := Nat.ne_of_lt (Nat.lt_of_lt_of_le (own_str_lt Fb1) zF_rp)
  have ne_se_ls : se ≠ ls := Nat.ne_of_lt (Nat.lt_of_lt_of_le (own_str_lt Fb1) zF_ls)
  have ne_se_ed : se ≠ ed := Nat.ne_of_lt (Nat.lt_of_lt_of_le (own_str_lt Fb1) zF_ed)
  have pre1688 : ∀ t, Steps p.tables e below (s₁.setTop (mkF m 1 #[rv rp, rv se, rv so] [(.ref rp)])) t → Steps p.tables e below (s₁.setTop (entryFrame m #[(.ref rp), (.ref se), (.ref so)] 3)) t := fun t kt => by
    refine pre0 _ ?_
    show Steps p.tables e below (s₁.setTop (mkF m 0 #[rv rp, rv se, rv so] [])) _
    refine XS.aloadN X0.here hx rfl (hb hby d18_0) rfl rfl ?_
    exact kt
  obtain ⟨T1689, X1689, e1689, st1689⟩ := getF X0 hx hZ hown (host := "") (Or.inl (W 80 rfl)) Via.refl e0 Fi1 (g := (mkF m 1 #[rv rp, rv se, rv so] [(.ref rp)])) rfl rfl (hb hby d18_1)
  have pre1690 : ∀ t, Steps p.tables e below (T1689.setTop (mkF m 4 #[rv rp, rv se, rv so] [(.ref ls)])) t → Steps p.tables e below (s₁.setTop (entryFrame m #[(.ref rp), (.ref se), (.ref so)] 3)) t := fun t kt => pre1688 _ (st1689 _ kt)
  have pre1691 : ∀ t, Steps p.tables e below (T1689.setTop (mkF m 5 #[rv rp, rv se, rv so] [(.ref so), (.ref ls)])) t → Steps p.tables e below (s₁.setTop (entryFrame m #[(.ref rp), (.ref se), (.ref so)] 3)) t := fun t kt => by
    refine pre1690 _ ?_
    show Steps p.tables e below (T1689.setTop (mkF m 4 #[rv rp, rv se, rv so] [(.ref ls)])) _
    refine XS.aloadN X1689.here hx rfl (hb hby d18_4) rfl rfl ?_
    exact kt
  obtain ⟨cq1692, kq1692, q1692a, q1692b, q1692c⟩ := isOf hZ e1689 Fi3
  obtain ⟨_, _, ⟨T1692, L1692, k1692, n1692⟩, -, X1692, ⟨Lc1692, hQ1692, l1692, y1692, z1692⟩, st1692⟩ := X1689.interfaceBack hx (xi := (⟨"java/util/List", "add", "(Ljava/lang/Object;)Z"⟩ : MethodName)) (y := (⟨"java/util/ArrayList", "add", "(Ljava/lang/Object;)Z"⟩ : MethodName)) hown (mvT hZ (W 94 rfl)) (mvT hZ (W 95 rfl)) (mvT hZ (W 96 rfl)) (mvT hZ (W 97 rfl)) (mvT hZ (W 98 rfl)) (mvT hZ (W 99 rfl)) (mvT hZ (W 100 rfl)) (mvT hZ (W 101 rfl)) (by decide) (backOf (W := 0) (rm_add19_2 l Z a0 hw [] ls so mc ed v0 v1 ked h0 n0 O0 g_ls g_ed Fi3 Fi4 Fi5 Fi6 Fi7 Fi8 Fi9 (E1686.ext XF0) (fun q => qm2 q.symm)) hZ (W 102 rfl) (W 58 rfl) (by decide) (by decide)) q1692a q1692b q1692c (g := (mkF m 5 #[rv rp, rv se, rv so] [(.ref so), (.ref ls)])) rfl (by rw [hml]; rfl) (Steps.refl _) (argsL := [(.ref so)]) (rest := []) (lenOf pd_38 rfl) rfl (by show 2 * 0 + _ ≤ _; exact Nat.le_of_eq rfl) (hb hby d18_5) (fun _ _ => ⟨rfl, e1689, (by decide : 0 + 0 ≤ _), (by decide : 0 + 0 ≤ _)⟩)
  dsimp only [Pt.U, Pt.locs, Pt.cells, Pt.slots] at X1692 l1692 y1692 z1692 st1692 hQ1692
  replace l1692 := l1692.symm
  replace y1692 : 0 = k1692 := y1692.symm
  replace z1692 : 0 = n1692 := z1692.symm
  subst l1692 y1692 z1692
  obtain ⟨rfl, M1692, Kc1692, O1692, J1692_0, J1692_1, J1692_2, J1692_3, J1692_4, J1692_5⟩ := hQ1692
  obtain ⟨h1692, e1692⟩ : ∃ z, T1692.heap = z := ⟨_, rfl⟩
  rw [e1692] at Kc1692 O1692 J1692_0 J1692_1 J1692_2 J1692_3 J1692_4 J1692_5
  have N1692 := Fr.app N0 M1692
  have K1692 : Keep h0 h1692 [rp, ls, ed] := K0.trans Kc1692 (own_all2 (Or.inl (List.mem_of_getElem? (i := 1) rfl)) (Or.inl (List.mem_of_getElem? (i := 2) rfl)))
  have pre1893 : ∀ t, Steps p.tables e below (T1692.setTop (mkF m 10 #[rv rp, rv se, rv so] [(.int (1 : Int32))])) t → Steps p.tables e below (s₁.setTop (entryFrame m #[(.ref rp), (.ref se), (.ref so)] 3)) t := fun t kt => pre1691 _ (st1692.trans kt)
  have XF1894 : Ext hF h1692 := own_ext_keep XF0 Kc1692 (own_all2 zF_ls zF_ed)
  have F1895 := Fi0.keep Kc1692
  have F1896 := Fi1.keep Kc1692 (own_nm2 qm0 qm1)
  have F1897 := Fi2.keep Kc1692 (own_nm2 qm0 qm1)
  have pre1898 : ∀ t, Steps p.tables e below (T1692.setTop (mkF m 13 #[rv rp, rv se, rv so] [(.ref se), (.ref so)])) t → Steps p.tables e below (s₁.setTop (entryFrame m #[(.ref rp), (.ref se), (.ref so)] 3)) t := fun t kt => by
    refine pre1893 _ ?_
    show Steps p.tables e below (T1692.setTop (mkF m 10 #[rv rp, rv se, rv so] [(.int (1 : Int32))])) _
    refine XS.pop X1692.here hx rfl (hb hby d18_10) rfl rfl ?_
    refine XS.aloadN X1692.here hx rfl (hb hby d18_11) rfl rfl ?_
    refine XS.aloadN X1692.here hx rfl (hb hby d18_12) rfl rfl ?_
    exact kt
  obtain ⟨cq1899, kq1899, q1899a, q1899b, q1899c⟩ := isOf hZ e1692 (E1686.ext XF1894)
  obtain ⟨_, _, ⟨T1899, L1899, k1899, n1899⟩, -, X1899, ⟨Lc1899, hQ1899, l1899, y1899, z1899⟩, st1899⟩ := X1692.virtualBack hx (y := (⟨"java/lang/String", "equals", "(Ljava/lang/Object;)Z"⟩ : MethodName)) (z := (⟨"java/lang/String", "equals", "(Ljava/lang/Object;)Z"⟩ : MethodName)) hown (mvT hZ (W 129 rfl)) (mvT hZ (W 130 rfl)) (notFace_of_selects (args := #[]) (mvT hZ (W 132 rfl))) (mvT hZ (W 132 rfl)) (mvT hZ (W 131 rfl)) (by decide) (backOf (W := 0) (rm_equals l Z a0 hw [] so se cz b1 c0 c1 b2 d0 d1 h1692 n0 O1692 G0 (own_str_ext Fb0 XF1894) (own_str_ext Fb1 XF1894) qz qn) hZ (W 133 rfl) (W 9 rfl) (by decide) (by decide)) q1899a q1899c (g := (mkF m 13 #[rv rp, rv se, rv so] [(.ref se), (.ref so)])) rfl (by rw [hml]; rfl) (Steps.refl _) (argsL := [(.ref se)]) (rest := []) (lenOf pd_38 rfl) rfl (by show 2 * 0 + _ ≤ _; exact Nat.le_of_eq rfl) (hb hby d18_13) (fun _ _ => ⟨rfl, e1692, (by decide : 0 + 0 ≤ _), (by decide : 0 + 0 ≤ _)⟩)
  dsimp only [Pt.U, Pt.locs, Pt.cells, Pt.slots] at X1899 l1899 y1899 z1899 st1899 hQ1899
  replace l1899 := l1899.symm
  replace y1899 : 0 = k1899 := y1899.symm
  replace z1899 : 0 = n1899 := z1899.symm
  subst l1899 y1899 z1899
  obtain ⟨rfl, M1899, e1899⟩ := hQ1899
  have N1899 := Fr.app N1692 M1899
  have pre1900 : ∀ t, Steps p.tables e below (T1899.setTop (mkF m 16 #[rv rp, rv se, rv so] [(.int (own_eqv (own_cs b1 c0 c1) (own_cs b2 d0 d1)))])) t → Steps p.tables e below (s₁.setTop (entryFrame m #[(.ref rp), (.ref se), (.ref so)] 3)) t := fun t kt => pre1898 _ (st1899.trans kt)
  by_cases hc1901 : (own_eqv (own_cs b1 c0 c1) (own_cs b2 d0 d1)) = (0 : Int32)
  · have pre1902 : ∀ t, Steps p.tables e below (T1899.setTop (mkF m 21 #[rv rp, rv se, rv so] [(.int (1 : Int32)), (.ref rp)])) t → Steps p.tables e below (s₁.setTop (entryFrame m #[(.ref rp), (.ref se), (.ref so)] 3)) t := fun t kt => by
      refine pre1900 _ ?_
      show Steps p.tables e below (T1899.setTop (mkF m 16 #[rv rp, rv se, rv so] [(.int (own_eqv (own_cs b1 c0 c1) (own_cs b2 d0 d1)))])) _
      refine XS.ifNo X1899.here hx rfl (hb hby d18_16) rfl (XT.i0_ne_f hc1901) ?_
      refine XS.aloadN X1899.here hx rfl (hb hby d18_19) rfl rfl ?_
      refine XS.iconst X1899.here hx rfl (hb hby d18_20) ?_
      exact kt
    obtain ⟨T1903, h1903, X1903, e1903, W1903, st1903⟩ := putFN X1899 hx hZ hown (W 87 rfl) Via.refl e1899 F1897 F1895 (Or.inl (W 88 rfl)) (W 50 rfl) (ty := .boolean) (v' := (.int (1 : Int32))) (by decide) rfl rfl (g := (mkF m 21 #[rv rp, rv se, rv so] [(.int (1 : Int32)), (.ref rp)])) rfl rfl (hb hby d18_21)
    have pre1904 : ∀ t, Steps p.tables e below (T1903.setTop (mkF m 24 #[rv rp, rv se, rv so] [])) t → Steps p.tables e below (s₁.setTop (entryFrame m #[(.ref rp), (.ref se), (.ref so)] 3)) t := fun t kt => pre1902 _ (st1903 _ kt)
    have N1903 := Fr.snoc X1903 N1899 g_rp
    have O1903 := O1692.wr W1903 g_rp
    have K1903 : Keep h0 h1903 [rp, ls, ed] := K1692.wr W1903 (Or.inl (List.mem_of_getElem? (i := 0) rfl))
    have XF1905 : Ext hF h1903 := own_ext_wr XF1894 W1903 zF_rp
    have F1906 := F1895.wr W1903
    have F1907 := F1896.other W1903 (Or.inr (slot_ne (Or.inr (W 81 rfl)) (Or.inl (W 88 rfl)) (by decide) (t := (.object "java/util/List")) (t' := .boolean) (by decide) (by decide)))
    have F1908 := J1692_0.wr W1903
    have F1909 := J1692_1.other W1903 (Or.inl (fun q => qm0 q.symm))
    have F1910 := J1692_2.wr W1903
    have F1911 := J1692_3.other W1903 (Or.inl (fun q => qm0 q.symm))
    have F1912 := J1692_4.other W1903 (fun q => qm1 q.symm)
    have F1913 := J1692_5.other W1903 (Or.inl (fun q => qm0 q.symm))
    have F1914 : Fld Z h1903 rp "com/example/homethread/homethread/cli/ScenarioReport" "differs" "Z" (.int (1 : Int32)) := F1897.same W1903
    have F1915 : Fld Z h1903 rp "com/example/homethread/homethread/cli/ScenarioReport" "differs" "Z" (.int (own_dif df (own_eqv (own_cs b1 c0 c1) (own_cs b2 d0 d1)))) := (by rw [show (own_dif df (own_eqv (own_cs b1 c0 c1) (own_cs b2 d0 d1))) = (1 : Int32) from own_dif0 hc1901]; exact F1914)
    obtain ⟨fs, hr, hrun, hended, hW, hsame⟩ := X1903.leave (v := none) (fun _ => rfl)
    refine ⟨_, _, pre1904 _ (X1903.returnOut hx Bd.returns (hb hby d18_24) hr), hrun, hended, _, _, rfl, ?_, ⟨_, rfl⟩, hW, hsame.mono (by decide) (by decide)⟩
    show Q_line2 Z rp se so cz ad kd ls mc df b1 c0 c1 b2 d0 d1 ed ked v0 v1 h0 n0 _ T1903.heap _
    rw [e1903]
    exact ⟨rfl, N1903, K1903, O1903, F1906, F1907, F1915, F1908, F1911, F1909, F1913, F1910, F1912, Fi9⟩
  · have pre1916 : ∀ t, Steps p.tables e below (T1899.setTop (mkF m 24 #[rv rp, rv se, rv so] [])) t → Steps p.tables e below (s₁.setTop (entryFrame m #[(.ref rp), (.ref se), (.ref so)] 3)) t := fun t kt => by
      refine pre1900 _ ?_
      show Steps p.tables e below (T1899.setTop (mkF m 16 #[rv rp, rv se, rv so] [(.int (own_eqv (own_cs b1 c0 c1) (own_cs b2 d0 d1)))])) _
      refine XS.ifYes X1899.here hx rfl (pc0 := 16) (pc' := 24) rfl (hb hby d18_16) rfl (XT.i0_ne_t hc1901) (by decide) (by decide) ?_
      exact kt
    have F1917 : Fld Z h1692 rp "com/example/homethread/homethread/cli/ScenarioReport" "differs" "Z" (.int (own_dif df (own_eqv (own_cs b1 c0 c1) (own_cs b2 d0 d1)))) := (by rw [show (own_dif df (own_eqv (own_cs b1 c0 c1) (own_cs b2 d0 d1))) = df from own_dif1 hc1901]; exact F1897)
    obtain ⟨fs, hr, hrun, hended, hW, hsame⟩ := X1899.leave (v := none) (fun _ => rfl)
    refine ⟨_, _, pre1916 _ (X1899.returnOut hx Bd.returns (hb hby d18_24) hr), hrun, hended, _, _, rfl, ?_, ⟨_, rfl⟩, hW, hsame.mono (by decide) (by decide)⟩
    show Q_line2 Z rp se so cz ad kd ls mc df b1 c0 c1 b2 d0 d1 ed ked v0 v1 h0 n0 _ T1899.heap _
    rw [e1899]
    exact ⟨rfl, N1899, K1692, O1692, F1895, F1896, F1917, J1692_0, J1692_3, J1692_1, J1692_5, J1692_2, J1692_4, Fi9⟩
theorem ef_39 (m : MethodId) (x0 : Int32) (x1 : Int32) (x2 : Int32) (x3 : Int32) : entryFrame m #[(.int x0), (.int x1), (.int x2), (.int x3)] maxLocals = mkF m 0 #[.val (.int x0), .val (.int x1), .val (.int x2), .val (.int x3), .unset, .unset, .unset, .unset, .unset, .unset, .unset, .unset, .unset, .unset, .unset, .unset, .unset, .unset] [] := by first | (simp [entryFrame, mkF, argsToLocals, Value.category, maxLocals]; done) | rfl
theorem pd_40 : parseMethodDescriptor "(II)Ljava/lang/String;" = some ⟨[.int, .int], some (.object "java/lang/String")⟩ := by decide +kernel
theorem pd_41 : parseMethodDescriptor "(II)Z" = some ⟨[.int, .int], some .boolean⟩ := by decide +kernel
theorem d13_0 : decode prog_42_method_1_code 0 = .ok (.aload_n 0, 1) := by decide +kernel
theorem d13_1 : decode prog_42_method_1_code 1 = .ok (.invokespecial 1, 3) := by decide +kernel
theorem d13_4 : decode prog_42_method_1_code 4 = .ok (.aload_n 0, 1) := by decide +kernel
theorem d13_5 : decode prog_42_method_1_code 5 = .ok (.new 7, 3) := by decide +kernel
theorem d13_8 : decode prog_42_method_1_code 8 = .ok (.dup, 1) := by decide +kernel
theorem d13_9 : decode prog_42_method_1_code 9 = .ok (.invokespecial 9, 3) := by decide +kernel
theorem d14_0 : decode jdk_38_method_2_code 0 = .ok (.aload_n 0, 1) := by decide +kernel
theorem d14_1 : decode jdk_38_method_2_code 1 = .ok (.invokespecial 1, 3) := by decide +kernel
theorem d15_0 : decode jdk_39_method_1_code 0 = .ok (.aload_n 0, 1) := by decide +kernel
theorem d15_1 : decode jdk_39_method_1_code 1 = .ok (.invokespecial 1, 3) := by decide +kernel
theorem d16_0 : decode jdk_22_method_1_code 0 = .ok (.aload_n 0, 1) := by decide +kernel
theorem d16_1 : decode jdk_22_method_1_code 1 = .ok (.invokespecial 1, 3) := by decide +kernel
theorem d16_4 : decode jdk_22_method_1_code 4 = .ok (.return_, 1) := by decide +kernel
theorem pn_42 : plainName "java/util/AbstractCollection" = true := by first | (simp [plainName, overriddenIn]; done) | decide +kernel
theorem ef_43 (m : MethodId) (x0 : Addr) : entryFrame m #[(.ref x0)] 1 = mkF m 0 #[.val (.ref x0)] [] := by first | (simp [entryFrame, mkF, argsToLocals, Value.category]; done) | rfl
def Q_init16_0 (Z : State) (b1975 : Addr) (h0 : Heap) (n0 : Nat) (v : Option Value) (h : Heap) (L : List Loc) : Prop := v = none ∧ Fr n0 L ∧ h = h0
set_option maxRecDepth 65536 in
set_option maxHeartbeats 40000000 in
theorem rm_init16_0 (l : Launch) (Z : State) (a0 : Array Value) (hw : ∀ d ∈ tables_1, d.before a0 Z = true) (ws : List Jvm.Cond) (b1975 : Addr) (h0 : Heap) (n0 : Nat) (O0 : Old Z n0 h0) :
    MetFree l (⟨"java/util/AbstractCollection", "<init>", "()V"⟩ : MethodName) (head1 (Jvm.Cond.code (⟨"java/util/AbstractCollection", "<init>", "()V"⟩ : MethodName) jdk_22_method_1_code 1 none :: ws) ({ frames := 1, cells := 0, slots := 0, locals := 12 } : Room)) (fun a U => a = #[(.ref b1975)] ∧ Z.Warmed39 U.vm ∧ U.heap = h0) (fun _ _ _ _ _ => True) (fun _ U o U' => ∃ v L, o = .returned v ∧ Q_init16_0 Z b1975 h0 n0 v U'.heap L ∧ FrameEnd U o U' L ({ frames := 1, cells := 0, slots := 0, locals := 12 } : Room).cells ({ frames := 1, cells := 0, slots := 0, locals := 12 } : Room).slots) := by
  refine MetFree.of_bodySF (plainFor_of_name pn_42) hisR ?_
  intro p e s m args below meth c s₁ Bd hml0 hP hK
  have W := fun {d : Jvm.Cond} (i : Nat) (q : tables_1[i]? = some d) => hw d (List.mem_of_getElem? q)
  obtain ⟨rfl, hZ, hh⟩ := hP
  have hx := Bd.exec
  have hby := Bd.bytes
  have hml : c.maxLocals = 1 := hml0
  have hown : s.vm.findClass "java/util/AbstractCollection" = some m.cls := findClass_of_methodNamed Bd.named
  have hnm := (name_of_methodNamed Bd.named Bd.method).1
  have X0 : Stand p l e ({ frames := 1, cells := 0, slots := 0, locals := 12 } : Room) s m #[(.ref b1975)] below meth c s₁ [] 0 0 := Stand.of_body Bd
  have e0 : s₁.heap = h0 := by rw [← hh, Bd.state]; rfl
  have N0 := Fr.nil n0
  have pre0 : ∀ t, Steps p.tables e below (s₁.setTop (mkF m 0 #[rv b1975] [])) t → Steps p.tables e below (s₁.setTop (entryFrame m #[(.ref b1975)] 1)) t := fun t k => castTop (ef_43 m b1975) k
  have K0 : Keep h0 h0 [] := Keep.refl h0 []
  have pre1996 : ∀ t, Steps p.tables e below (s₁.setTop (mkF m 1 #[rv b1975] [(.ref b1975)])) t → Steps p.tables e below (s₁.setTop (entryFrame m #[(.ref b1975)] 1)) t := fun t kt => by
    refine pre0 _ ?_
    show Steps p.tables e below (s₁.setTop (mkF m 0 #[rv b1975] [])) _
    refine XS.aloadN X0.here hx rfl (hb hby d16_0) rfl rfl ?_
    exact kt
  obtain ⟨T1997, X1997, e1997, st1997⟩ := initO X0 hx hZ hown (W 74 rfl) (W 19 rfl) (W 20 rfl) e0 (g := (mkF m 1 #[rv b1975] [(.ref b1975)])) rfl (by rw [hml]; rfl) rfl (hb hby d16_1) (by decide) (W := 0) (by show 2 * 0 + _ ≤ _; exact Nat.le_of_eq rfl) (by decide)
  have pre1998 : ∀ t, Steps p.tables e below (T1997.setTop (mkF m 4 #[rv b1975] [])) t → Steps p.tables e below (s₁.setTop (entryFrame m #[(.ref b1975)] 1)) t := fun t kt => pre1996 _ (st1997 _ kt)
  obtain ⟨fs, hr, hrun, hended, hW, hsame⟩ := X1997.leave (v := none) (fun _ => rfl)
  refine ⟨_, _, pre1998 _ (X1997.returnOut hx Bd.returns (hb hby d16_4) hr), hrun, hended, _, _, rfl, ?_, ⟨_, rfl⟩, hW, hsame.mono (by decide) (by decide)⟩
  show Q_init16_0 Z b1975 h0 n0 _ T1997.heap _
  rw [e1997]
  exact ⟨rfl, N0, rfl⟩
theorem pd_44 : parseMethodDescriptor "()V" = some ⟨[], none⟩ := by decide +kernel
theorem d15_4 : decode jdk_39_method_1_code 4 = .ok (.aload_n 0, 1) := by decide +kernel
theorem d15_5 : decode jdk_39_method_1_code 5 = .ok (.iconst 0, 1) := by decide +kernel
theorem d15_6 : decode jdk_39_method_1_code 6 = .ok (.putfield 7, 3) := by decide +kernel
theorem d15_9 : decode jdk_39_method_1_code 9 = .ok (.return_, 1) := by decide +kernel
theorem pn_45 : plainName "java/util/AbstractList" = true := by first | (simp [plainName, overriddenIn]; done) | decide +kernel
theorem ef_46 (m : MethodId) (x0 : Addr) : entryFrame m #[(.ref x0)] 1 = mkF m 0 #[.val (.ref x0)] [] := by first | (simp [entryFrame, mkF, argsToLocals, Value.category]; done) | rfl
def Q_init15_0 (Z : State) (b1975 : Addr) (h0 : Heap) (n0 : Nat) (v : Option Value) (h : Heap) (L : List Loc) : Prop := v = none ∧ Fr n0 L ∧ Keep h0 h [b1975] ∧ Old Z n0 h ∧ Exa Z h b1975 "java/util/ArrayList" ∧ Fld Z h b1975 "java/util/ArrayList" "elementData" "[Ljava/lang/Object;" .null ∧ Fld Z h b1975 "java/util/ArrayList" "size" "I" (.int (0 : Int32)) ∧ Fld Z h b1975 "java/util/AbstractList" "modCount" "I" (.int (0 : Int32))
set_option maxRecDepth 65536 in
set_option maxHeartbeats 40000000 in
theorem rm_init15_0 (l : Launch) (Z : State) (a0 : Array Value) (hw : ∀ d ∈ tables_1, d.before a0 Z = true) (ws : List Jvm.Cond) (b1975 : Addr) (h0 : Heap) (n0 : Nat) (O0 : Old Z n0 h0) (g_b1975 : n0 ≤ b1975) (Fi0 : Exa Z h0 b1975 "java/util/ArrayList") (Fi1 : Fld Z h0 b1975 "java/util/AbstractList" "modCount" "I" (.int (0 : Int32))) (Fi2 : Fld Z h0 b1975 "java/util/ArrayList" "elementData" "[Ljava/lang/Object;" .null) (Fi3 : Fld Z h0 b1975 "java/util/ArrayList" "size" "I" (.int (0 : Int32))) :
    MetFree l (⟨"java/util/AbstractList", "<init>", "()V"⟩ : MethodName) (head1 (Jvm.Cond.code (⟨"java/util/AbstractList", "<init>", "()V"⟩ : MethodName) jdk_39_method_1_code 1 none :: ws) ({ frames := 2, cells := 0, slots := 0, locals := 24 } : Room)) (fun a U => a = #[(.ref b1975)] ∧ Z.Warmed39 U.vm ∧ U.heap = h0) (fun _ _ _ _ _ => True) (fun _ U o U' => ∃ v L, o = .returned v ∧ Q_init15_0 Z b1975 h0 n0 v U'.heap L ∧ FrameEnd U o U' L ({ frames := 2, cells := 0, slots := 0, locals := 24 } : Room).cells ({ frames := 2, cells := 0, slots := 0, locals := 24 } : Room).slots) := by
  refine MetFree.of_bodySF (plainFor_of_name pn_45) hisR ?_
  intro p e s m args below meth c s₁ Bd hml0 hP hK
  have W := fun {d : Jvm.Cond} (i : Nat) (q : tables_1[i]? = some d) => hw d (List.mem_of_getElem? q)
  obtain ⟨rfl, hZ, hh⟩ := hP
  have hx := Bd.exec
  have hby := Bd.bytes
  have hml : c.maxLocals = 1 := hml0
  have hown : s.vm.findClass "java/util/AbstractList" = some m.cls := findClass_of_methodNamed Bd.named
  have hnm := (name_of_methodNamed Bd.named Bd.method).1
  have X0 : Stand p l e ({ frames := 2, cells := 0, slots := 0, locals := 24 } : Room) s m #[(.ref b1975)] below meth c s₁ [] 0 0 := Stand.of_body Bd
  have e0 : s₁.heap = h0 := by rw [← hh, Bd.state]; rfl
  have N0 := Fr.nil n0
  have pre0 : ∀ t, Steps p.tables e below (s₁.setTop (mkF m 0 #[rv b1975] [])) t → Steps p.tables e below (s₁.setTop (entryFrame m #[(.ref b1975)] 1)) t := fun t k => castTop (ef_46 m b1975) k
  have K0 : Keep h0 h0 [b1975] := Keep.refl h0 [b1975]
  have pre2030 : ∀ t, Steps p.tables e below (s₁.setTop (mkF m 1 #[rv b1975] [(.ref b1975)])) t → Steps p.tables e below (s₁.setTop (entryFrame m #[(.ref b1975)] 1)) t := fun t kt => by
    refine pre0 _ ?_
    show Steps p.tables e below (s₁.setTop (mkF m 0 #[rv b1975] [])) _
    refine XS.aloadN X0.here hx rfl (hb hby d15_0) rfl rfl ?_
    exact kt
  obtain ⟨_, _, ⟨T2031, L2031, k2031, n2031⟩, -, X2031, ⟨Lc2031, hQ2031, l2031, y2031, z2031⟩, st2031⟩ := X0.specialBack hx (y := (⟨"java/util/AbstractCollection", "<init>", "()V"⟩ : MethodName)) rfl hown (mvT hZ (W 68 rfl)) (mvT hZ (W 69 rfl)) (mvT hZ (W 73 rfl)) (by decide) (backOf (W := 0) (rm_init16_0 l Z a0 hw [] b1975 h0 n0 O0) hZ (W 73 rfl) (W 72 rfl) (by decide) (by decide)) (g := (mkF m 1 #[rv b1975] [(.ref b1975)])) rfl (by rw [hml]; rfl) (Steps.refl _) (a := b1975) (argsL := []) (rest := []) (lenOf pd_44 rfl) rfl (by show 2 * 0 + _ ≤ _; exact Nat.le_of_eq rfl) (hb hby d15_1) (fun _ _ => ⟨rfl, e0, (by decide : 0 + 0 ≤ _), (by decide : 0 + 0 ≤ _)⟩)
  dsimp only [Pt.U, Pt.locs, Pt.cells, Pt.slots] at X2031 l2031 y2031 z2031 st2031 hQ2031
  replace l2031 := l2031.symm
  replace y2031 : 0 = k2031 := y2031.symm
  replace z2031 : 0 = n2031 := z2031.symm
  subst l2031 y2031 z2031
  obtain ⟨rfl, M2031, e2031⟩ := hQ2031
  have N2031 := Fr.app N0 M2031
  have pre2032 : ∀ t, Steps p.tables e below (T2031.setTop (mkF m 4 #[rv b1975] [])) t → Steps p.tables e below (s₁.setTop (entryFrame m #[(.ref b1975)] 1)) t := fun t kt => pre2030 _ (st2031.trans kt)
  have pre2033 : ∀ t, Steps p.tables e below (T2031.setTop (mkF m 6 #[rv b1975] [(.int (0 : Int32)), (.ref b1975)])) t → Steps p.tables e below (s₁.setTop (entryFrame m #[(.ref b1975)] 1)) t := fun t kt => by
    refine pre2032 _ ?_
    show Steps p.tables e below (T2031.setTop (mkF m 4 #[rv b1975] [])) _
    refine XS.aloadN X2031.here hx rfl (hb hby d15_4) rfl rfl ?_
    refine XS.iconst X2031.here hx rfl (hb hby d15_5) ?_
    exact kt
  obtain ⟨T2034, h2034, X2034, e2034, W2034, st2034⟩ := putF X2031 hx hZ hown (host := "") (Or.inl (W 75 rfl)) Via.refl e2031 Fi1 Fi0 (Or.inl (W 76 rfl)) (W 57 rfl) (ty := .int) (by decide) rfl rfl (g := (mkF m 6 #[rv b1975] [(.int (0 : Int32)), (.ref b1975)])) rfl rfl (hb hby d15_6)
  have pre2035 : ∀ t, Steps p.tables e below (T2034.setTop (mkF m 9 #[rv b1975] [])) t → Steps p.tables e below (s₁.setTop (entryFrame m #[(.ref b1975)] 1)) t := fun t kt => pre2033 _ (st2034 _ kt)
  have N2034 := Fr.snoc X2034 N2031 g_b1975
  have O2034 := O0.wr W2034 g_b1975
  have K2034 : Keep h0 h2034 [b1975] := K0.wr W2034 (Or.inl (List.mem_of_getElem? (i := 0) rfl))
  have F2036 := Fi0.wr W2034
  have F2037 := Fi2.other W2034 (Or.inr (slot_ne (Or.inl (W 79 rfl)) (Or.inl (W 76 rfl)) (by decide) (t := (.array (.object "java/lang/Object"))) (t' := .int) (by decide) (by decide)))
  have F2038 := Fi3.other W2034 (Or.inr (slot_ne (Or.inl (W 106 rfl)) (Or.inl (W 76 rfl)) (by decide) (t := .int) (t' := .int) (by decide) (by decide)))
  have F2039 : Fld Z h2034 b1975 "java/util/AbstractList" "modCount" "I" (.int (0 : Int32)) := Fi1.same W2034
  obtain ⟨fs, hr, hrun, hended, hW, hsame⟩ := X2034.leave (v := none) (fun _ => rfl)
  refine ⟨_, _, pre2035 _ (X2034.returnOut hx Bd.returns (hb hby d15_9) hr), hrun, hended, _, _, rfl, ?_, ⟨_, rfl⟩, hW, hsame.mono (by decide) (by decide)⟩
  show Q_init15_0 Z b1975 h0 n0 _ T2034.heap _
  rw [e2034]
  exact ⟨rfl, N2034, K2034, O2034, F2036, F2037, F2038, F2039⟩
theorem d14_4 : decode jdk_38_method_2_code 4 = .ok (.aload_n 0, 1) := by decide +kernel
theorem d14_5 : decode jdk_38_method_2_code 5 = .ok (.getstatic 39, 3) := by decide +kernel
theorem d14_8 : decode jdk_38_method_2_code 8 = .ok (.putfield 9, 3) := by decide +kernel
theorem d14_11 : decode jdk_38_method_2_code 11 = .ok (.return_, 1) := by decide +kernel
theorem ef_47 (m : MethodId) (x0 : Addr) : entryFrame m #[(.ref x0)] 1 = mkF m 0 #[.val (.ref x0)] [] := by first | (simp [entryFrame, mkF, argsToLocals, Value.category]; done) | rfl
def Q_init14_0 (Z : State) (b1975 : Addr) (ad : Addr) (h0 : Heap) (n0 : Nat) (v : Option Value) (h : Heap) (L : List Loc) : Prop := v = none ∧ Fr n0 L ∧ Keep h0 h [b1975] ∧ Old Z n0 h ∧ Exa Z h b1975 "java/util/ArrayList" ∧ Fld Z h b1975 "java/util/ArrayList" "size" "I" (.int (0 : Int32)) ∧ Fld Z h b1975 "java/util/AbstractList" "modCount" "I" (.int (0 : Int32)) ∧ Fld Z h b1975 "java/util/ArrayList" "elementData" "[Ljava/lang/Object;" (.ref ad)
set_option maxRecDepth 65536 in
set_option maxHeartbeats 40000000 in
theorem rm_init14_0 (l : Launch) (Z : State) (a0 : Array Value) (hw : ∀ d ∈ tables_1, d.before a0 Z = true) (ws : List Jvm.Cond) (b1975 : Addr) (ad : Addr) (h0 : Heap) (n0 : Nat) (O0 : Old Z n0 h0) (G0 : Sta Z Z.heap "java/util/ArrayList" "DEFAULTCAPACITY_EMPTY_ELEMENTDATA" "[Ljava/lang/Object;" (.ref ad)) (g_b1975 : n0 ≤ b1975) (Fi0 : Exa Z h0 b1975 "java/util/ArrayList") (Fi1 : Fld Z h0 b1975 "java/util/AbstractList" "modCount" "I" (.int (0 : Int32))) (Fi2 : Fld Z h0 b1975 "java/util/ArrayList" "elementData" "[Ljava/lang/Object;" .null) (Fi3 : Fld Z h0 b1975 "java/util/ArrayList" "size" "I" (.int (0 : Int32))) :
    MetFree l (⟨"java/util/ArrayList", "<init>", "()V"⟩ : MethodName) (head1 (Jvm.Cond.code (⟨"java/util/ArrayList", "<init>", "()V"⟩ : MethodName) jdk_38_method_2_code 1 none :: ws) ({ frames := 3, cells := 0, slots := 0, locals := 36 } : Room)) (fun a U => a = #[(.ref b1975)] ∧ Z.Warmed39 U.vm ∧ U.heap = h0) (fun _ _ _ _ _ => True) (fun _ U o U' => ∃ v L, o = .returned v ∧ Q_init14_0 Z b1975 ad h0 n0 v U'.heap L ∧ FrameEnd U o U' L ({ frames := 3, cells := 0, slots := 0, locals := 36 } : Room).cells ({ frames := 3, cells := 0, slots := 0, locals := 36 } : Room).slots) := by
  refine MetFree.of_bodySF (plainFor_of_name pn_30) hisR ?_
  intro p e s m args below meth c s₁ Bd hml0 hP hK
  have W := fun {d : Jvm.Cond} (i : Nat) (q : tables_1[i]? = some d) => hw d (List.mem_of_getElem? q)
  obtain ⟨rfl, hZ, hh⟩ := hP
  have hx := Bd.exec
  have hby := Bd.bytes
  have hml : c.maxLocals = 1 := hml0
  have hown : s.vm.findClass "java/util/ArrayList" = some m.cls := findClass_of_methodNamed Bd.named
  have hnm := (name_of_methodNamed Bd.named Bd.method).1
  have X0 : Stand p l e ({ frames := 3, cells := 0, slots := 0, locals := 36 } : Room) s m #[(.ref b1975)] below meth c s₁ [] 0 0 := Stand.of_body Bd
  have e0 : s₁.heap = h0 := by rw [← hh, Bd.state]; rfl
  have N0 := Fr.nil n0
  have pre0 : ∀ t, Steps p.tables e below (s₁.setTop (mkF m 0 #[rv b1975] [])) t → Steps p.tables e below (s₁.setTop (entryFrame m #[(.ref b1975)] 1)) t := fun t k => castTop (ef_47 m b1975) k
  have K0 : Keep h0 h0 [b1975] := Keep.refl h0 [b1975]
  have pre2080 : ∀ t, Steps p.tables e below (s₁.setTop (mkF m 1 #[rv b1975] [(.ref b1975)])) t → Steps p.tables e below (s₁.setTop (entryFrame m #[(.ref b1975)] 1)) t := fun t kt => by
    refine pre0 _ ?_
    show Steps p.tables e below (s₁.setTop (mkF m 0 #[rv b1975] [])) _
    refine XS.aloadN X0.here hx rfl (hb hby d14_0) rfl rfl ?_
    exact kt
  obtain ⟨_, _, ⟨T2081, L2081, k2081, n2081⟩, -, X2081, ⟨Lc2081, hQ2081, l2081, y2081, z2081⟩, st2081⟩ := X0.specialBack hx (y := (⟨"java/util/AbstractList", "<init>", "()V"⟩ : MethodName)) rfl hown (mvT hZ (W 62 rfl)) (mvT hZ (W 63 rfl)) (mvT hZ (W 67 rfl)) (by decide) (backOf (W := 0) (rm_init15_0 l Z a0 hw [] b1975 h0 n0 O0 g_b1975 Fi0 Fi1 Fi2 Fi3) hZ (W 67 rfl) (W 66 rfl) (by decide) (by decide)) (g := (mkF m 1 #[rv b1975] [(.ref b1975)])) rfl (by rw [hml]; rfl) (Steps.refl _) (a := b1975) (argsL := []) (rest := []) (lenOf pd_44 rfl) rfl (by show 2 * 0 + _ ≤ _; exact Nat.le_of_eq rfl) (hb hby d14_1) (fun _ _ => ⟨rfl, e0, (by decide : 0 + 0 ≤ _), (by decide : 0 + 0 ≤ _)⟩)
  dsimp only [Pt.U, Pt.locs, Pt.cells, Pt.slots] at X2081 l2081 y2081 z2081 st2081 hQ2081
  replace l2081 := l2081.symm
  replace y2081 : 0 = k2081 := y2081.symm
  replace z2081 : 0 = n2081 := z2081.symm
  subst l2081 y2081 z2081
  obtain ⟨rfl, M2081, Kc2081, O2081, J2081_0, J2081_1, J2081_2, J2081_3⟩ := hQ2081
  obtain ⟨h2081, e2081⟩ : ∃ z, T2081.heap = z := ⟨_, rfl⟩
  rw [e2081] at Kc2081 O2081 J2081_0 J2081_1 J2081_2 J2081_3
  have N2081 := Fr.app N0 M2081
  have K2081 : Keep h0 h2081 [b1975] := K0.trans Kc2081 (own_all1 (Or.inl (List.mem_of_getElem? (i := 0) rfl)))
  have pre2082 : ∀ t, Steps p.tables e below (T2081.setTop (mkF m 4 #[rv b1975] [])) t → Steps p.tables e below (s₁.setTop (entryFrame m #[(.ref b1975)] 1)) t := fun t kt => pre2080 _ (st2081.trans kt)
  have pre2083 : ∀ t, Steps p.tables e below (T2081.setTop (mkF m 5 #[rv b1975] [(.ref b1975)])) t → Steps p.tables e below (s₁.setTop (entryFrame m #[(.ref b1975)] 1)) t := fun t kt => by
    refine pre2082 _ ?_
    show Steps p.tables e below (T2081.setTop (mkF m 4 #[rv b1975] [])) _
    refine XS.aloadN X2081.here hx rfl (hb hby d14_4) rfl rfl ?_
    exact kt
  obtain ⟨T2084, X2084, e2084, st2084⟩ := getS2 X2081 hx hZ hown (host := "") (Or.inl (W 77 rfl)) Via.refl e2081 (G0.ext O2081.2) (g := (mkF m 5 #[rv b1975] [(.ref b1975)])) rfl (hb hby d14_5)
  have pre2085 : ∀ t, Steps p.tables e below (T2084.setTop (mkF m 8 #[rv b1975] [(.ref ad), (.ref b1975)])) t → Steps p.tables e below (s₁.setTop (entryFrame m #[(.ref b1975)] 1)) t := fun t kt => pre2083 _ (st2084 _ kt)
  obtain ⟨T2086, h2086, X2086, e2086, W2086, st2086⟩ := putF X2084 hx hZ hown (host := "") (Or.inl (W 78 rfl)) Via.refl e2084 J2081_1 J2081_0 (Or.inl (W 79 rfl)) (W 57 rfl) (ty := (.array (.object "java/lang/Object"))) (by decide) rfl rfl (g := (mkF m 8 #[rv b1975] [(.ref ad), (.ref b1975)])) rfl rfl (hb hby d14_8)
  have pre2087 : ∀ t, Steps p.tables e below (T2086.setTop (mkF m 11 #[rv b1975] [])) t → Steps p.tables e below (s₁.setTop (entryFrame m #[(.ref b1975)] 1)) t := fun t kt => pre2085 _ (st2086 _ kt)
  have N2086 := Fr.snoc X2086 N2081 g_b1975
  have O2086 := O2081.wr W2086 g_b1975
  have K2086 : Keep h0 h2086 [b1975] := K2081.wr W2086 (Or.inl (List.mem_of_getElem? (i := 0) rfl))
  have F2088 := J2081_0.wr W2086
  have F2089 := J2081_2.other W2086 (Or.inr (slot_ne (Or.inl (W 106 rfl)) (Or.inl (W 79 rfl)) (by decide) (t := .int) (t' := (.array (.object "java/lang/Object"))) (by decide) (by decide)))
  have F2090 := J2081_3.other W2086 (Or.inr (slot_ne (Or.inl (W 76 rfl)) (Or.inl (W 79 rfl)) (by decide) (t := .int) (t' := (.array (.object "java/lang/Object"))) (by decide) (by decide)))
  have F2091 : Fld Z h2086 b1975 "java/util/ArrayList" "elementData" "[Ljava/lang/Object;" (.ref ad) := J2081_1.same W2086
  obtain ⟨fs, hr, hrun, hended, hW, hsame⟩ := X2086.leave (v := none) (fun _ => rfl)
  refine ⟨_, _, pre2087 _ (X2086.returnOut hx Bd.returns (hb hby d14_11) hr), hrun, hended, _, _, rfl, ?_, ⟨_, rfl⟩, hW, hsame.mono (by decide) (by decide)⟩
  show Q_init14_0 Z b1975 ad h0 n0 _ T2086.heap _
  rw [e2086]
  exact ⟨rfl, N2086, K2086, O2086, F2088, F2089, F2090, F2091⟩
theorem d13_12 : decode prog_42_method_1_code 12 = .ok (.putfield 10, 3) := by decide +kernel
theorem d13_15 : decode prog_42_method_1_code 15 = .ok (.return_, 1) := by decide +kernel
theorem ef_48 (m : MethodId) (x0 : Addr) : entryFrame m #[(.ref x0)] 1 = mkF m 0 #[.val (.ref x0)] [] := by first | (simp [entryFrame, mkF, argsToLocals, Value.category]; done) | rfl
def Q_init13_0 (Z : State) (b1963 : Addr) (ad : Addr) (h0 : Heap) (n0 : Nat) (v : Option Value) (h : Heap) (L : List Loc) : Prop := ∃ (b2137 : Addr), v = none ∧ Fr n0 L ∧ Keep h0 h [b1963] ∧ Old Z n0 h ∧ Exa Z h b1963 "com/example/homethread/homethread/cli/ScenarioReport" ∧ Fld Z h b1963 "com/example/homethread/homethread/cli/ScenarioReport" "differs" "Z" (.int (0 : Int32)) ∧ Exa Z h b2137 "java/util/ArrayList" ∧ Fld Z h b2137 "java/util/ArrayList" "size" "I" (.int (0 : Int32)) ∧ Fld Z h b2137 "java/util/AbstractList" "modCount" "I" (.int (0 : Int32)) ∧ Fld Z h b2137 "java/util/ArrayList" "elementData" "[Ljava/lang/Object;" (.ref ad) ∧ Fld Z h b1963 "com/example/homethread/homethread/cli/ScenarioReport" "lines" "Ljava/util/List;" (.ref b2137) ∧ (h0.size ≤ b2137)
set_option maxRecDepth 65536 in
set_option maxHeartbeats 40000000 in
theorem rm_init13_0 (l : Launch) (Z : State) (a0 : Array Value) (hw : ∀ d ∈ tables_1, d.before a0 Z = true) (ws : List Jvm.Cond) (b1963 : Addr) (ad : Addr) (h0 : Heap) (n0 : Nat) (O0 : Old Z n0 h0) (G0 : Sta Z Z.heap "java/util/ArrayList" "DEFAULTCAPACITY_EMPTY_ELEMENTDATA" "[Ljava/lang/Object;" (.ref ad)) (g_b1963 : n0 ≤ b1963) (Fi0 : Exa Z h0 b1963 "com/example/homethread/homethread/cli/ScenarioReport") (Fi1 : Fld Z h0 b1963 "com/example/homethread/homethread/cli/ScenarioReport" "lines" "Ljava/util/List;" .null) (Fi2 : Fld Z h0 b1963 "com/example/homethread/homethread/cli/ScenarioReport" "differs" "Z" (.int (0 : Int32))) :
    MetFree l (⟨"com/example/homethread/homethread/cli/ScenarioReport", "<init>", "()V"⟩ : MethodName) (head1 (Jvm.Cond.code (⟨"com/example/homethread/homethread/cli/ScenarioReport", "<init>", "()V"⟩ : MethodName) prog_42_method_1_code 1 none :: ws) ({ frames := 4, cells := 1, slots := 3, locals := 50 } : Room)) (fun a U => a = #[(.ref b1963)] ∧ Z.Warmed39 U.vm ∧ U.heap = h0) (fun _ _ _ _ _ => True) (fun _ U o U' => ∃ v L, o = .returned v ∧ Q_init13_0 Z b1963 ad h0 n0 v U'.heap L ∧ FrameEnd U o U' L ({ frames := 4, cells := 1, slots := 3, locals := 50 } : Room).cells ({ frames := 4, cells := 1, slots := 3, locals := 50 } : Room).slots) := by
  refine MetFree.of_bodySF (plainFor_of_name pn_25) hisR ?_
  intro p e s m args below meth c s₁ Bd hml0 hP hK
  have W := fun {d : Jvm.Cond} (i : Nat) (q : tables_1[i]? = some d) => hw d (List.mem_of_getElem? q)
  obtain ⟨rfl, hZ, hh⟩ := hP
  have hx := Bd.exec
  have hby := Bd.bytes
  have hml : c.maxLocals = 1 := hml0
  have hown : s.vm.findClass "com/example/homethread/homethread/cli/ScenarioReport" = some m.cls := findClass_of_methodNamed Bd.named
  have hnm := (name_of_methodNamed Bd.named Bd.method).1
  have X0 : Stand p l e ({ frames := 4, cells := 1, slots := 3, locals := 50 } : Room) s m #[(.ref b1963)] below meth c s₁ [] 0 0 := Stand.of_body Bd
  have e0 : s₁.heap = h0 := by rw [← hh, Bd.state]; rfl
  have N0 := Fr.nil n0
  have pre0 : ∀ t, Steps p.tables e below (s₁.setTop (mkF m 0 #[rv b1963] [])) t → Steps p.tables e below (s₁.setTop (entryFrame m #[(.ref b1963)] 1)) t := fun t k => castTop (ef_48 m b1963) k
  have K0 : Keep h0 h0 [b1963] := Keep.refl h0 [b1963]
  have pre2133 : ∀ t, Steps p.tables e below (s₁.setTop (mkF m 1 #[rv b1963] [(.ref b1963)])) t → Steps p.tables e below (s₁.setTop (entryFrame m #[(.ref b1963)] 1)) t := fun t kt => by
    refine pre0 _ ?_
    show Steps p.tables e below (s₁.setTop (mkF m 0 #[rv b1963] [])) _
    refine XS.aloadN X0.here hx rfl (hb hby d13_0) rfl rfl ?_
    exact kt
  obtain ⟨T2134, X2134, e2134, st2134⟩ := initO X0 hx hZ hown (W 55 rfl) (W 19 rfl) (W 20 rfl) e0 (g := (mkF m 1 #[rv b1963] [(.ref b1963)])) rfl (by rw [hml]; rfl) rfl (hb hby d13_1) (by decide) (W := 0) (by show 2 * 0 + _ ≤ _; exact Nat.le_of_eq rfl) (by decide)
  have pre2135 : ∀ t, Steps p.tables e below (T2134.setTop (mkF m 4 #[rv b1963] [])) t → Steps p.tables e below (s₁.setTop (entryFrame m #[(.ref b1963)] 1)) t := fun t kt => pre2133 _ (st2134 _ kt)
  have pre2136 : ∀ t, Steps p.tables e below (T2134.setTop (mkF m 5 #[rv b1963] [(.ref b1963)])) t → Steps p.tables e below (s₁.setTop (entryFrame m #[(.ref b1963)] 1)) t := fun t kt => by
    refine pre2135 _ ?_
    show Steps p.tables e below (T2134.setTop (mkF m 4 #[rv b1963] [])) _
    refine XS.aloadN X2134.here hx rfl (hb hby d13_4) rfl rfl ?_
    exact kt
  obtain ⟨T2137, h2137, X2137, e2137, E2137, A2137, D2137, -, st2137⟩ := newO X2134 hx hZ hown (W 56 rfl) (W 57 rfl) (W 58 rfl) e2134 (g := (mkF m 5 #[rv b1963] [(.ref b1963)])) rfl (hb hby d13_5) (by decide) (by decide)
  obtain ⟨b2137, g2137⟩ : ∃ z, z = h0.size := ⟨_, rfl⟩
  rw [← g2137] at A2137 D2137 st2137
  have pre2138 : ∀ t, Steps p.tables e below (T2137.setTop (mkF m 8 #[rv b1963] [(.ref b2137), (.ref b1963)])) t → Steps p.tables e below (s₁.setTop (entryFrame m #[(.ref b1963)] 1)) t := fun t kt => pre2136 _ (st2137 _ kt)
  have O2137 := O0.ext E2137
  have K2137 : Keep h0 h2137 [b1963] := K0.ext E2137
  have F2139 := Fi0.ext E2137
  have F2140 := Fi1.ext E2137
  have F2141 := Fi2.ext E2137
  have g_b2137 : n0 ≤ b2137 := Nat.le_trans (Nat.le_trans (Nat.le_of_eq O0.1.symm) O0.2.1) (Nat.le_of_eq g2137.symm)
  have sz_b2137 : h0.size ≤ b2137 := Nat.le_trans K0.1 (Nat.le_of_eq g2137.symm)
  have ne_b1963_b2137 : b1963 ≠ b2137 := Nat.ne_of_lt (Nat.lt_of_lt_of_le Fi0.lt (Nat.le_of_eq g2137.symm))
  have F2142 : Exa Z h2137 b2137 "java/util/ArrayList" := A2137
  have F2143 : Fld Z h2137 b2137 "java/util/AbstractList" "modCount" "I" (.int (0 : Int32)) := D2137 (Or.inl (W 76 rfl)) (ty := .int) (by decide)
  have F2144 : Fld Z h2137 b2137 "java/util/ArrayList" "elementData" "[Ljava/lang/Object;" .null := D2137 (Or.inl (W 79 rfl)) (ty := (.array (.object "java/lang/Object"))) (by decide)
  have F2145 : Fld Z h2137 b2137 "java/util/ArrayList" "size" "I" (.int (0 : Int32)) := D2137 (Or.inl (W 106 rfl)) (ty := .int) (by decide)
  have pre2146 : ∀ t, Steps p.tables e below (T2137.setTop (mkF m 9 #[rv b1963] [(.ref b2137), (.ref b2137), (.ref b1963)])) t → Steps p.tables e below (s₁.setTop (entryFrame m #[(.ref b1963)] 1)) t := fun t kt => by
    refine pre2138 _ ?_
    show Steps p.tables e below (T2137.setTop (mkF m 8 #[rv b1963] [(.ref b2137), (.ref b1963)])) _
    refine XS.dup X2137.here hx rfl (hb hby d13_8) rfl rfl ?_
    exact kt
  obtain ⟨_, _, ⟨T2147, L2147, k2147, n2147⟩, -, X2147, ⟨Lc2147, hQ2147, l2147, y2147, z2147⟩, st2147⟩ := X2137.specialBack hx (y := (⟨"java/util/ArrayList", "<init>", "()V"⟩ : MethodName)) rfl hown (mvT hZ (W 59 rfl)) (mvT hZ (W 60 rfl)) (mvT hZ (W 61 rfl)) (by decide) (backOf (W := 2) (rm_init14_0 l Z a0 hw [] b2137 ad h2137 n0 O2137 G0 g_b2137 F2142 F2143 F2144 F2145) hZ (W 61 rfl) (W 58 rfl) (by decide) (by decide)) (g := (mkF m 9 #[rv b1963] [(.ref b2137), (.ref b2137), (.ref b1963)])) rfl (by rw [hml]; rfl) (Steps.refl _) (a := b2137) (argsL := []) (rest := [(.ref b2137), (.ref b1963)]) (lenOf pd_44 rfl) rfl (by show 2 * 0 + _ ≤ _; exact Nat.le_of_eq rfl) (hb hby d13_9) (fun _ _ => ⟨rfl, e2137, (by decide : 1 + 0 ≤ _), (by decide : 3 + 0 ≤ _)⟩)
  dsimp only [Pt.U, Pt.locs, Pt.cells, Pt.slots] at X2147 l2147 y2147 z2147 st2147 hQ2147
  replace l2147 := l2147.symm
  replace y2147 : 1 = k2147 := y2147.symm
  replace z2147 : 3 = n2147 := z2147.symm
  subst l2147 y2147 z2147
  obtain ⟨rfl, M2147, Kc2147, O2147, J2147_0, J2147_1, J2147_2, J2147_3⟩ := hQ2147
  obtain ⟨h2147, e2147⟩ : ∃ z, T2147.heap = z := ⟨_, rfl⟩
  rw [e2147] at Kc2147 O2147 J2147_0 J2147_1 J2147_2 J2147_3
  have N2147 := Fr.app N0 M2147
  have K2147 : Keep h0 h2147 [b1963] := K2137.trans Kc2147 (own_all1 (Or.inr sz_b2137))
  have pre2148 : ∀ t, Steps p.tables e below (T2147.setTop (mkF m 12 #[rv b1963] [(.ref b2137), (.ref b1963)])) t → Steps p.tables e below (s₁.setTop (entryFrame m #[(.ref b1963)] 1)) t := fun t kt => pre2146 _ (st2147.trans kt)
  have F2149 := F2139.keep Kc2147
  have F2150 := F2140.keep Kc2147 (own_nm1 ne_b1963_b2137)
  have F2151 := F2141.keep Kc2147 (own_nm1 ne_b1963_b2137)
  obtain ⟨T2152, h2152, X2152, e2152, W2152, st2152⟩ := putF X2147 hx hZ hown (host := "") (Or.inl (W 80 rfl)) Via.refl e2147 F2150 F2149 (Or.inr ⟨(W 81 rfl), rfl, hnm⟩) (W 50 rfl) (ty := (.object "java/util/List")) (by decide) rfl rfl (g := (mkF m 12 #[rv b1963] [(.ref b2137), (.ref b1963)])) rfl rfl (hb hby d13_12)
  have pre2153 : ∀ t, Steps p.tables e below (T2152.setTop (mkF m 15 #[rv b1963] [])) t → Steps p.tables e below (s₁.setTop (entryFrame m #[(.ref b1963)] 1)) t := fun t kt => pre2148 _ (st2152 _ kt)
  have N2152 := Fr.snoc X2152 N2147 g_b1963
  have O2152 := O2147.wr W2152 g_b1963
  have K2152 : Keep h0 h2152 [b1963] := K2147.wr W2152 (Or.inl (List.mem_of_getElem? (i := 0) rfl))
  have F2154 := F2149.wr W2152
  have F2155 := F2151.other W2152 (Or.inr (slot_ne (Or.inl (W 88 rfl)) (Or.inr (W 81 rfl)) (by decide) (t := .boolean) (t' := (.object "java/util/List")) (by decide) (by decide)))
  have F2156 := J2147_0.wr W2152
  have F2157 := J2147_1.other W2152 (Or.inl (fun q => ne_b1963_b2137 q.symm))
  have F2158 := J2147_2.other W2152 (Or.inl (fun q => ne_b1963_b2137 q.symm))
  have F2159 := J2147_3.other W2152 (Or.inl (fun q => ne_b1963_b2137 q.symm))
  have F2160 : Fld Z h2152 b1963 "com/example/homethread/homethread/cli/ScenarioReport" "lines" "Ljava/util/List;" (.ref b2137) := F2150.same W2152
  obtain ⟨fs, hr, hrun, hended, hW, hsame⟩ := X2152.leave (v := none) (fun _ => rfl)
  refine ⟨_, _, pre2153 _ (X2152.returnOut hx Bd.returns (hb hby d13_15) hr), hrun, hended, _, _, rfl, ?_, ⟨_, rfl⟩, hW, hsame.mono (by decide) (by decide)⟩
  show Q_init13_0 Z b1963 ad h0 n0 _ T2152.heap _
  rw [e2152]
  exact ⟨b2137, rfl, N2152, K2152, O2152, F2154, F2155, F2156, F2157, F2158, F2159, F2160, sz_b2137⟩
theorem d17_0 : decode prog_42_method_5_code 0 = .ok (.aload_n 0, 1) := by decide +kernel
theorem d17_1 : decode prog_42_method_5_code 1 = .ok (.getfield 39, 3) := by decide +kernel
theorem d17_4 : decode prog_42_method_5_code 4 = .ok (.ifCond .eq 7, 3) := by decide +kernel
theorem d17_11 : decode prog_42_method_5_code 11 = .ok (.iconst 0, 1) := by decide +kernel
theorem d17_12 : decode prog_42_method_5_code 12 = .ok (.ireturn, 1) := by decide +kernel
theorem ef_49 (m : MethodId) (x0 : Addr) : entryFrame m #[(.ref x0)] 1 = mkF m 0 #[.val (.ref x0)] [] := by first | (simp [entryFrame, mkF, argsToLocals, Value.category]; done) | rfl
def Q_exitStatus17_0 (Z : State) (b1963 : Addr) (h0 : Heap) (n0 : Nat) (v : Option Value) (h : Heap) (L : List Loc) : Prop := v = some (.int (0 : Int32)) ∧ Fr n0 L ∧ h = h0
set_option maxRecDepth 65536 in
set_option maxHeartbeats 40000000 in
theorem rm_exitStatus17_0 (l : Launch) (Z : State) (a0 : Array Value) (hw : ∀ d ∈ tables_1, d.before a0 Z = true) (ws : List Jvm.Cond) (b1963 : Addr) (h0 : Heap) (n0 : Nat) (O0 : Old Z n0 h0) (Fi0 : Fld Z h0 b1963 "com/example/homethread/homethread/cli/ScenarioReport" "differs" "Z" (.int (0 : Int32))) :
    MetFree l (⟨"com/example/homethread/homethread/cli/ScenarioReport", "exitStatus", "()I"⟩ : MethodName) (head1 (Jvm.Cond.code (⟨"com/example/homethread/homethread/cli/ScenarioReport", "exitStatus", "()I"⟩ : MethodName) prog_42_method_5_code 1 (some .int) :: ws) ({ frames := 0, cells := 0, slots := 0, locals := 0 } : Room)) (fun a U => a = #[(.ref b1963)] ∧ Z.Warmed39 U.vm ∧ U.heap = h0) (fun _ _ _ _ _ => True) (fun _ U o U' => ∃ v L, o = .returned v ∧ Q_exitStatus17_0 Z b1963 h0 n0 v U'.heap L ∧ FrameEnd U o U' L ({ frames := 0, cells := 0, slots := 0, locals := 0 } : Room).cells ({ frames := 0, cells := 0, slots := 0, locals := 0 } : Room).slots) := by
  refine MetFree.of_bodySF (plainFor_of_name pn_25) hisR ?_
  intro p e s m args below meth c s₁ Bd hml0 hP hK
  have W := fun {d : Jvm.Cond} (i : Nat) (q : tables_1[i]? = some d) => hw d (List.mem_of_getElem? q)
  obtain ⟨rfl, hZ, hh⟩ := hP
  have hx := Bd.exec
  have hby := Bd.bytes
  have hml : c.maxLocals = 1 := hml0
  have hown : s.vm.findClass "com/example/homethread/homethread/cli/ScenarioReport" = some m.cls := findClass_of_methodNamed Bd.named
  have hnm := (name_of_methodNamed Bd.named Bd.method).1
  have X0 : Stand p l e ({ frames := 0, cells := 0, slots := 0, locals := 0 } : Room) s m #[(.ref b1963)] below meth c s₁ [] 0 0 := Stand.of_body Bd
  have e0 : s₁.heap = h0 := by rw [← hh, Bd.state]; rfl
  have N0 := Fr.nil n0
  have pre0 : ∀ t, Steps p.tables e below (s₁.setTop (mkF m 0 #[rv b1963] [])) t → Steps p.tables e below (s₁.setTop (entryFrame m #[(.ref b1963)] 1)) t := fun t k => castTop (ef_49 m b1963) k
  have K0 : Keep h0 h0 [] := Keep.refl h0 []
  have pre2173 : ∀ t, Steps p.tables e below (s₁.setTop (mkF m 1 #[rv b1963] [(.ref b1963)])) t → Steps p.tables e below (s₁.setTop (entryFrame m #[(.ref b1963)] 1)) t := fun t kt => by
    refine pre0 _ ?_
    show Steps p.tables e below (s₁.setTop (mkF m 0 #[rv b1963] [])) _
    refine XS.aloadN X0.here hx rfl (hb hby d17_0) rfl rfl ?_
    exact kt
  obtain ⟨T2174, X2174, e2174, st2174⟩ := getF X0 hx hZ hown (host := "") (Or.inl (W 87 rfl)) Via.refl e0 Fi0 (g := (mkF m 1 #[rv b1963] [(.ref b1963)])) rfl rfl (hb hby d17_1)
  have pre2175 : ∀ t, Steps p.tables e below (T2174.setTop (mkF m 4 #[rv b1963] [(.int (0 : Int32))])) t → Steps p.tables e below (s₁.setTop (entryFrame m #[(.ref b1963)] 1)) t := fun t kt => pre2173 _ (st2174 _ kt)
  have pre2176 : ∀ t, Steps p.tables e below (T2174.setTop (mkF m 12 #[rv b1963] [(.int (0 : Int32))])) t → Steps p.tables e below (s₁.setTop (entryFrame m #[(.ref b1963)] 1)) t := fun t kt => by
    refine pre2175 _ ?_
    show Steps p.tables e below (T2174.setTop (mkF m 4 #[rv b1963] [(.int (0 : Int32))])) _
    refine XS.ifYes X2174.here hx rfl (pc0 := 4) (pc' := 11) rfl (hb hby d17_4) rfl (XT.i0_eq_t (by decide)) (by decide) (by decide) ?_
    refine XS.iconst X2174.here hx rfl (hb hby d17_11) ?_
    exact kt
  obtain ⟨fs, hr, hrun, hended, hW, hsame⟩ := X2174.leave (v := some (.int (0 : Int32))) (fun h => by rw [Bd.returns] at h; cases h)
  refine ⟨_, _, pre2176 _ (retI X2174 hx Bd.returns (hb hby d17_12) hr), hrun, hended, _, _, rfl, ?_, ⟨_, rfl⟩, hW, hsame.mono (by decide) (by decide)⟩
  show Q_exitStatus17_0 Z b1963 h0 n0 _ T2174.heap _
  rw [e2174]
  exact ⟨rfl, N0, rfl⟩
theorem pd_50 : parseMethodDescriptor "()I" = some ⟨[], some .int⟩ := by decide +kernel
theorem d26_0 : decode method_8_code 0 = .ok (.iload_n 0, 1) := by decide +kernel
theorem d26_1 : decode method_8_code 1 = .ok (.ifCond .eq 7, 3) := by decide +kernel
theorem d26_8 : decode method_8_code 8 = .ok (.iconst 0, 1) := by decide +kernel
theorem d26_9 : decode method_8_code 9 = .ok (.ireturn, 1) := by decide +kernel
theorem ef_51 (m : MethodId) (x0 : Int32) : entryFrame m #[(.int x0)] 1 = mkF m 0 #[.val (.int x0)] [] := by first | (simp [entryFrame, mkF, argsToLocals, Value.category]; done) | rfl
def Q_want26_0 (Z : State)  (h0 : Heap) (n0 : Nat) (v : Option Value) (h : Heap) (L : List Loc) : Prop := v = some (.int (0 : Int32)) ∧ Fr n0 L ∧ h = h0
set_option maxRecDepth 65536 in
set_option maxHeartbeats 40000000 in
theorem rm_want26_0 (l : Launch) (Z : State) (a0 : Array Value) (hw : ∀ d ∈ tables_1, d.before a0 Z = true) (ws : List Jvm.Cond)  (h0 : Heap) (n0 : Nat) (O0 : Old Z n0 h0) :
    MetFree l (⟨"com/example/homethread/homethread/cli/ScenarioReportExitStatusPinLaw", "want", "(Z)I"⟩ : MethodName) (head1 (Jvm.Cond.code (⟨"com/example/homethread/homethread/cli/ScenarioReportExitStatusPinLaw", "want", "(Z)I"⟩ : MethodName) method_8_code 1 (some .int) :: ws) ({ frames := 0, cells := 0, slots := 0, locals := 0 } : Room)) (fun a U => a = #[(.int (0 : Int32))] ∧ Z.Warmed39 U.vm ∧ U.heap = h0) (fun _ _ _ _ _ => True) (fun _ U o U' => ∃ v L, o = .returned v ∧ Q_want26_0 Z  h0 n0 v U'.heap L ∧ FrameEnd U o U' L ({ frames := 0, cells := 0, slots := 0, locals := 0 } : Room).cells ({ frames := 0, cells := 0, slots := 0, locals := 0 } : Room).slots) := by
  refine MetFree.of_bodySF (plainFor_of_name pn_0) hisR ?_
  intro p e s m args below meth c s₁ Bd hml0 hP hK
  have W := fun {d : Jvm.Cond} (i : Nat) (q : tables_1[i]? = some d) => hw d (List.mem_of_getElem? q)
  obtain ⟨rfl, hZ, hh⟩ := hP
  have hx := Bd.exec
  have hby := Bd.bytes
  have hml : c.maxLocals = 1 := hml0
  have hown : s.vm.findClass "com/example/homethread/homethread/cli/ScenarioReportExitStatusPinLaw" = some m.cls := findClass_of_methodNamed Bd.named
  have hnm := (name_of_methodNamed Bd.named Bd.method).1
  have X0 : Stand p l e ({ frames := 0, cells := 0, slots := 0, locals := 0 } : Room) s m #[(.int (0 : Int32))] below meth c s₁ [] 0 0 := Stand.of_body Bd
  have e0 : s₁.heap = h0 := by rw [← hh, Bd.state]; rfl
  have N0 := Fr.nil n0
  have pre0 : ∀ t, Steps p.tables e below (s₁.setTop (mkF m 0 #[iv (0 : Int32)] [])) t → Steps p.tables e below (s₁.setTop (entryFrame m #[(.int (0 : Int32))] 1)) t := fun t k => castTop (ef_51 m (0 : Int32)) k
  have K0 : Keep h0 h0 [] := Keep.refl h0 []
  have pre2187 : ∀ t, Steps p.tables e below (s₁.setTop (mkF m 9 #[iv (0 : Int32)] [(.int (0 : Int32))])) t → Steps p.tables e below (s₁.setTop (entryFrame m #[(.int (0 : Int32))] 1)) t := fun t kt => by
    refine pre0 _ ?_
    show Steps p.tables e below (s₁.setTop (mkF m 0 #[iv (0 : Int32)] [])) _
    refine XS.iloadN X0.here hx rfl (hb hby d26_0) rfl ?_
    refine XS.ifYes X0.here hx rfl (pc0 := 1) (pc' := 8) rfl (hb hby d26_1) rfl (XT.i0_eq_t (by decide)) (by decide) (by decide) ?_
    refine XS.iconst X0.here hx rfl (hb hby d26_8) ?_
    exact kt
  obtain ⟨fs, hr, hrun, hended, hW, hsame⟩ := X0.leave (v := some (.int (0 : Int32))) (fun h => by rw [Bd.returns] at h; cases h)
  refine ⟨_, _, pre2187 _ (retI X0 hx Bd.returns (hb hby d26_9) hr), hrun, hended, _, _, rfl, ?_, ⟨_, rfl⟩, hW, hsame.mono (by decide) (by decide)⟩
  show Q_want26_0 Z  h0 n0 _ s₁.heap _
  rw [e0]
  exact ⟨rfl, N0, rfl⟩
theorem pd_52 : parseMethodDescriptor "(Z)I" = some ⟨[.boolean], some .int⟩ := by decide +kernel
theorem pd_53 : parseMethodDescriptor "(Ljava/lang/String;Ljava/lang/String;)V" = some ⟨[(.object "java/lang/String"), (.object "java/lang/String")], none⟩ := by decide +kernel
theorem d17_7 : decode prog_42_method_5_code 7 = .ok (.iconst 1, 1) := by decide +kernel
theorem d17_8 : decode prog_42_method_5_code 8 = .ok (.goto 4, 3) := by decide +kernel
def Q_exitStatus17_1 (Z : State) (b1963 : Addr) (h0 : Heap) (n0 : Nat) (v : Option Value) (h : Heap) (L : List Loc) : Prop := v = some (.int (1 : Int32)) ∧ Fr n0 L ∧ h = h0
set_option maxRecDepth 65536 in
set_option maxHeartbeats 40000000 in
theorem rm_exitStatus17_1 (l : Launch) (Z : State) (a0 : Array Value) (hw : ∀ d ∈ tables_1, d.before a0 Z = true) (ws : List Jvm.Cond) (b1963 : Addr) (h0 : Heap) (n0 : Nat) (O0 : Old Z n0 h0) (Fi0 : Fld Z h0 b1963 "com/example/homethread/homethread/cli/ScenarioReport" "differs" "Z" (.int (1 : Int32))) :
    MetFree l (⟨"com/example/homethread/homethread/cli/ScenarioReport", "exitStatus", "()I"⟩ : MethodName) (head1 (Jvm.Cond.code (⟨"com/example/homethread/homethread/cli/ScenarioReport", "exitStatus", "()I"⟩ : MethodName) prog_42_method_5_code 1 (some .int) :: ws) ({ frames := 0, cells := 0, slots := 0, locals := 0 } : Room)) (fun a U => a = #[(.ref b1963)] ∧ Z.Warmed39 U.vm ∧ U.heap = h0) (fun _ _ _ _ _ => True) (fun _ U o U' => ∃ v L, o = .returned v ∧ Q_exitStatus17_1 Z b1963 h0 n0 v U'.heap L ∧ FrameEnd U o U' L ({ frames := 0, cells := 0, slots := 0, locals := 0 } : Room).cells ({ frames := 0, cells := 0, slots := 0, locals := 0 } : Room).slots) := by
  refine MetFree.of_bodySF (plainFor_of_name pn_25) hisR ?_
  intro p e s m args below meth c s₁ Bd hml0 hP hK
  have W := fun {d : Jvm.Cond} (i : Nat) (q : tables_1[i]? = some d) => hw d (List.mem_of_getElem? q)
  obtain ⟨rfl, hZ, hh⟩ := hP
  have hx := Bd.exec
  have hby := Bd.bytes
  have hml : c.maxLocals = 1 := hml0
  have hown : s.vm.findClass "com/example/homethread/homethread/cli/ScenarioReport" = some m.cls := findClass_of_methodNamed Bd.named
  have hnm := (name_of_methodNamed Bd.named Bd.method).1
  have X0 : Stand p l e ({ frames := 0, cells := 0, slots := 0, locals := 0 } : Room) s m #[(.ref b1963)] below meth c s₁ [] 0 0 := Stand.of_body Bd
  have e0 : s₁.heap = h0 := by rw [← hh, Bd.state]; rfl
  have N0 := Fr.nil n0
  have pre0 : ∀ t, Steps p.tables e below (s₁.setTop (mkF m 0 #[rv b1963] [])) t → Steps p.tables e below (s₁.setTop (entryFrame m #[(.ref b1963)] 1)) t := fun t k => castTop (ef_49 m b1963) k
  have K0 : Keep h0 h0 [] := Keep.refl h0 []
  have pre2206 : ∀ t, Steps p.tables e below (s₁.setTop (mkF m 1 #[rv b1963] [(.ref b1963)])) t → Steps p.tables e below (s₁.setTop (entryFrame m #[(.ref b1963)] 1)) t := fun t kt => by
    refine pre0 _ ?_
    show Steps p.tables e below (s₁.setTop (mkF m 0 #[rv b1963] [])) _
    refine XS.aloadN X0.here hx rfl (hb hby d17_0) rfl rfl ?_
    exact kt
  obtain ⟨T2207, X2207, e2207, st2207⟩ := getF X0 hx hZ hown (host := "") (Or.inl (W 87 rfl)) Via.refl e0 Fi0 (g := (mkF m 1 #[rv b1963] [(.ref b1963)])) rfl rfl (hb hby d17_1)
  have pre2208 : ∀ t, Steps p.tables e below (T2207.setTop (mkF m 4 #[rv b1963] [(.int (1 : Int32))])) t → Steps p.tables e below (s₁.setTop (entryFrame m #[(.ref b1963)] 1)) t := fun t kt => pre2206 _ (st2207 _ kt)
  have pre2209 : ∀ t, Steps p.tables e below (T2207.setTop (mkF m 12 #[rv b1963] [(.int (1 : Int32))])) t → Steps p.tables e below (s₁.setTop (entryFrame m #[(.ref b1963)] 1)) t := fun t kt => by
    refine pre2208 _ ?_
    show Steps p.tables e below (T2207.setTop (mkF m 4 #[rv b1963] [(.int (1 : Int32))])) _
    refine XS.ifNo X2207.here hx rfl (hb hby d17_4) rfl (XT.i0_eq_f (by decide)) ?_
    refine XS.iconst X2207.here hx rfl (hb hby d17_7) ?_
    refine XS.goto X2207.here hx rfl (pc0 := 8) (pc' := 12) rfl (hb hby d17_8) (by decide) (by decide) ?_
    exact kt
  obtain ⟨fs, hr, hrun, hended, hW, hsame⟩ := X2207.leave (v := some (.int (1 : Int32))) (fun h => by rw [Bd.returns] at h; cases h)
  refine ⟨_, _, pre2209 _ (retI X2207 hx Bd.returns (hb hby d17_12) hr), hrun, hended, _, _, rfl, ?_, ⟨_, rfl⟩, hW, hsame.mono (by decide) (by decide)⟩
  show Q_exitStatus17_1 Z b1963 h0 n0 _ T2207.heap _
  rw [e2207]
  exact ⟨rfl, N0, rfl⟩
theorem d26_4 : decode method_8_code 4 = .ok (.iconst 1, 1) := by decide +kernel
theorem d26_5 : decode method_8_code 5 = .ok (.goto 4, 3) := by decide +kernel
def Q_want26_1 (Z : State)  (h0 : Heap) (n0 : Nat) (v : Option Value) (h : Heap) (L : List Loc) : Prop := v = some (.int (1 : Int32)) ∧ Fr n0 L ∧ h = h0
set_option maxRecDepth 65536 in
set_option maxHeartbeats 40000000 in
theorem rm_want26_1 (l : Launch) (Z : State) (a0 : Array Value) (hw : ∀ d ∈ tables_1, d.before a0 Z = true) (ws : List Jvm.Cond)  (h0 : Heap) (n0 : Nat) (O0 : Old Z n0 h0) :
    MetFree l (⟨"com/example/homethread/homethread/cli/ScenarioReportExitStatusPinLaw", "want", "(Z)I"⟩ : MethodName) (head1 (Jvm.Cond.code (⟨"com/example/homethread/homethread/cli/ScenarioReportExitStatusPinLaw", "want", "(Z)I"⟩ : MethodName) method_8_code 1 (some .int) :: ws) ({ frames := 0, cells := 0, slots := 0, locals := 0 } : Room)) (fun a U => a = #[(.int (1 : Int32))] ∧ Z.Warmed39 U.vm ∧ U.heap = h0) (fun _ _ _ _ _ => True) (fun _ U o U' => ∃ v L, o = .returned v ∧ Q_want26_1 Z  h0 n0 v U'.heap L ∧ FrameEnd U o U' L ({ frames := 0, cells := 0, slots := 0, locals := 0 } : Room).cells ({ frames := 0, cells := 0, slots := 0, locals := 0 } : Room).slots) := by
  refine MetFree.of_bodySF (plainFor_of_name pn_0) hisR ?_
  intro p e s m args below meth c s₁ Bd hml0 hP hK
  have W := fun {d : Jvm.Cond} (i : Nat) (q : tables_1[i]? = some d) => hw d (List.mem_of_getElem? q)
  obtain ⟨rfl, hZ, hh⟩ := hP
  have hx := Bd.exec
  have hby := Bd.bytes
  have hml : c.maxLocals = 1 := hml0
  have hown : s.vm.findClass "com/example/homethread/homethread/cli/ScenarioReportExitStatusPinLaw" = some m.cls := findClass_of_methodNamed Bd.named
  have hnm := (name_of_methodNamed Bd.named Bd.method).1
  have X0 : Stand p l e ({ frames := 0, cells := 0, slots := 0, locals := 0 } : Room) s m #[(.int (1 : Int32))] below meth c s₁ [] 0 0 := Stand.of_body Bd
  have e0 : s₁.heap = h0 := by rw [← hh, Bd.state]; rfl
  have N0 := Fr.nil n0
  have pre0 : ∀ t, Steps p.tables e below (s₁.setTop (mkF m 0 #[iv (1 : Int32)] [])) t → Steps p.tables e below (s₁.setTop (entryFrame m #[(.int (1 : Int32))] 1)) t := fun t k => castTop (ef_51 m (1 : Int32)) k
  have K0 : Keep h0 h0 [] := Keep.refl h0 []
  have pre2215 : ∀ t, Steps p.tables e below (s₁.setTop (mkF m 9 #[iv (1 : Int32)] [(.int (1 : Int32))])) t → Steps p.tables e below (s₁.setTop (entryFrame m #[(.int (1 : Int32))] 1)) t := fun t kt => by
    refine pre0 _ ?_
    show Steps p.tables e below (s₁.setTop (mkF m 0 #[iv (1 : Int32)] [])) _
    refine XS.iloadN X0.here hx rfl (hb hby d26_0) rfl ?_
    refine XS.ifNo X0.here hx rfl (hb hby d26_1) rfl (XT.i0_eq_f (by decide)) ?_
    refine XS.iconst X0.here hx rfl (hb hby d26_4) ?_
    refine XS.goto X0.here hx rfl (pc0 := 5) (pc' := 9) rfl (hb hby d26_5) (by decide) (by decide) ?_
    exact kt
  obtain ⟨fs, hr, hrun, hended, hW, hsame⟩ := X0.leave (v := some (.int (1 : Int32))) (fun h => by rw [Bd.returns] at h; cases h)
  refine ⟨_, _, pre2215 _ (retI X0 hx Bd.returns (hb hby d26_9) hr), hrun, hended, _, _, rfl, ?_, ⟨_, rfl⟩, hW, hsame.mono (by decide) (by decide)⟩
  show Q_want26_1 Z  h0 n0 _ s₁.heap _
  rw [e0]
  exact ⟨rfl, N0, rfl⟩
def Q_law (Z : State) (p0 : Int32) (p1 : Int32) (p2 : Int32) (p3 : Int32) (cz : Int32) (ad : Addr) (kd : ClassId) (h0 : Heap) (n0 : Nat) (v : Option Value) (h : Heap) (L : List Loc) : Prop := v = some (.int (1 : Int32)) ∧ Fr n0 L
set_option maxRecDepth 65536 in
set_option maxHeartbeats 40000000 in
theorem rm_law (l : Launch) (Z : State) (a0 : Array Value) (hw : ∀ d ∈ tables_1, d.before a0 Z = true) (ws : List Jvm.Cond) (p0 : Int32) (p1 : Int32) (p2 : Int32) (p3 : Int32) (cz : Int32) (ad : Addr) (kd : ClassId) (h0 : Heap) (n0 : Nat) (O0 : Old Z n0 h0) (G0 : Sta Z Z.heap "java/lang/String" "COMPACT_STRINGS" "Z" (.int cz)) (G1 : Sta Z Z.heap "java/util/ArrayList" "DEFAULTCAPACITY_EMPTY_ELEMENTDATA" "[Ljava/lang/Object;" (.ref ad)) (G2 : Arv Z Z.heap ad kd (.object "java/lang/Object") (0 : Int32) [] .null) (G3 : Exa Z Z.heap ad "[Ljava/lang/Object;") (qz : ¬ (cz = (0 : Int32))) :
    MetFree l x (head1 (Jvm.Cond.code x code maxLocals ret :: ws) room_1) (fun a U => a = #[(.int p0), (.int p1), (.int p2), (.int p3)] ∧ Z.Warmed39 U.vm ∧ U.heap = h0) (fun _ _ _ _ _ => True) (fun _ U o U' => ∃ v L, o = .returned v ∧ Q_law Z p0 p1 p2 p3 cz ad kd h0 n0 v U'.heap L ∧ FrameEnd U o U' L room_1.cells room_1.slots) := by
  refine MetFree.of_bodySF (plainFor_of_name pn_0) hisR ?_
  intro p e s m args below meth c s₁ Bd hml0 hP hK
  have W := fun {d : Jvm.Cond} (i : Nat) (q : tables_1[i]? = some d) => hw d (List.mem_of_getElem? q)
  obtain ⟨rfl, hZ, hh⟩ := hP
  have hx := Bd.exec
  have hby := Bd.bytes
  have hml : c.maxLocals = 18 := hml0
  have hown : s.vm.findClass "com/example/homethread/homethread/cli/ScenarioReportExitStatusPinLaw" = some m.cls := findClass_of_methodNamed Bd.named
  have hnm := (name_of_methodNamed Bd.named Bd.method).1
  have X0 : Stand p l e room_1 s m #[(.int p0), (.int p1), (.int p2), (.int p3)] below meth c s₁ [] 0 0 := Stand.of_body Bd
  have e0 : s₁.heap = h0 := by rw [← hh, Bd.state]; rfl
  have N0 := Fr.nil n0
  have pre0 : ∀ t, Steps p.tables e below (s₁.setTop (mkF m 0 #[iv p0, iv p1, iv p2, iv p3, .unset, .unset, .unset, .unset, .unset, .unset, .unset, .unset, .unset, .unset, .unset, .unset, .unset, .unset] [])) t → Steps p.tables e below (s₁.setTop (entryFrame m #[(.int p0), (.int p1), (.int p2), (.int p3)] maxLocals)) t := fun t k => castTop (ef_39 m p0 p1 p2 p3) k
  have K0 : Keep h0 h0 [] := Keep.refl h0 []
  have pre1918 : ∀ t, Steps p.tables e below (s₁.setTop (mkF m 8 #[iv p0, iv p1, iv p2, iv p3, iv (p3 &&& (3 : Int32)), .unset, .unset, .unset, .unset, .unset, .unset, .unset, .unset, .unset, .unset, .unset, .unset, .unset] [(.int ((p3.toUInt32 >>> ((2 : Int32) &&& 31).toUInt32).toInt32))])) t → Steps p.tables e below (s₁.setTop (entryFrame m #[(.int p0), (.int p1), (.int p2), (.int p3)] maxLocals)) t := fun t kt => by
    refine pre0 _ ?_
    show Steps p.tables e below (s₁.setTop (mkF m 0 #[iv p0, iv p1, iv p2, iv p3, .unset, .unset, .unset, .unset, .unset, .unset, .unset, .unset, .unset, .unset, .unset, .unset, .unset, .unset] [])) _
    refine XS.iloadN X0.here hx rfl (hb hby at_0) rfl ?_
    refine XS.iconst X0.here hx rfl (hb hby at_1) ?_
    refine XS.iand X0.here hx rfl (hb hby at_2) rfl ?_
    refine XS.istore X0.here hx rfl (hb hby at_3) rfl (l' := #[iv p0, iv p1, iv p2, iv p3, iv (p3 &&& (3 : Int32)), .unset, .unset, .unset, .unset, .unset, .unset, .unset, .unset, .unset, .unset, .unset, .unset, .unset]) rfl ?_
    refine XS.iloadN X0.here hx rfl (hb hby at_5) rfl ?_
    refine XS.iconst X0.here hx rfl (hb hby at_6) ?_
    refine XS.iushr X0.here hx rfl (hb hby at_7) rfl ?_
    exact kt
  obtain ⟨ln, hln⟩ : ∃ z, z = ((p3.toUInt32 >>> ((2 : Int32) &&& 31).toUInt32).toInt32) := ⟨_, rfl⟩
  rw [← hln] at pre1918
  have pre1919 : ∀ t, Steps p.tables e below (s₁.setTop (mkF m 13 #[iv p0, iv p1, iv p2, iv p3, iv (p3 &&& (3 : Int32)), iv ln, .unset, .unset, .unset, .unset, .unset, .unset, .unset, .unset, .unset, .unset, .unset, .unset] [(.int ln), (.int p0)])) t → Steps p.tables e below (s₁.setTop (entryFrame m #[(.int p0), (.int p1), (.int p2), (.int p3)] maxLocals)) t := fun t kt => by
    refine pre1918 _ ?_
    show Steps p.tables e below (s₁.setTop (mkF m 8 #[iv p0, iv p1, iv p2, iv p3, iv (p3 &&& (3 : Int32)), .unset, .unset, .unset, .unset, .unset, .unset, .unset, .unset, .unset, .unset, .unset, .unset, .unset] [(.int ln)])) _
    refine XS.istore X0.here hx rfl (hb hby at_8) rfl (l' := #[iv p0, iv p1, iv p2, iv p3, iv (p3 &&& (3 : Int32)), iv ln, .unset, .unset, .unset, .unset, .unset, .unset, .unset, .unset, .unset, .unset, .unset, .unset]) rfl ?_
    refine XS.iloadN X0.here hx rfl (hb hby at_10) rfl ?_
    refine XS.iload X0.here hx rfl (hb hby at_11) rfl ?_
    exact kt
  obtain ⟨_, _, ⟨T1920, L1920, k1920, n1920⟩, -, X1920, ⟨Lc1920, hQ1920, l1920, y1920, z1920⟩, st1920⟩ := Jvm.LawKit.callS X0 hx (y := (⟨"com/example/homethread/homethread/cli/ScenarioReportExitStatusPinLaw", "exp", "(II)Ljava/lang/String;"⟩ : MethodName)) hown (mvT hZ (W 0 rfl)) (mvT hZ (W 1 rfl)) (mvT hZ (W 2 rfl)) (mvT hZ (W 3 rfl)) (by decide) (backOf (W := 0) (rm_exp l Z a0 hw [] p0 ln cz h0 n0 O0 G0 qz) hZ (W 3 rfl) (W 2 rfl) (by decide) (by decide)) (g := (mkF m 13 #[iv p0, iv p1, iv p2, iv p3, iv (p3 &&& (3 : Int32)), iv ln, .unset, .unset, .unset, .unset, .unset, .unset, .unset, .unset, .unset, .unset, .unset, .unset] [(.int ln), (.int p0)])) rfl (by rw [hml]; rfl) (argsL := [(.int p0), (.int ln)]) (rest := []) (lenOf pd_40 rfl) rfl (by show 2 * 0 + _ ≤ _; exact Nat.le_of_eq rfl) (hb hby at_13) (fun _ _ => ⟨rfl, e0, (by decide : 0 + 3 ≤ _), (by decide : 0 + 8 ≤ _)⟩)
  dsimp only [Pt.U, Pt.locs, Pt.cells, Pt.slots] at X1920 l1920 y1920 z1920 st1920 hQ1920
  replace l1920 := l1920.symm
  replace y1920 : 3 = k1920 := y1920.symm
  replace z1920 : 8 = n1920 := z1920.symm
  subst l1920 y1920 z1920
  obtain ⟨r_1920, rfl, M1920, Kc1920, O1920, J1920_0, P1920_0⟩ := hQ1920
  obtain ⟨h1920, e1920⟩ : ∃ z, T1920.heap = z := ⟨_, rfl⟩
  rw [e1920] at Kc1920 O1920 J1920_0
  try rw [e1920] at P1920_0
  have N1920 := Fr.app N0 M1920
  have K1920 : Keep h0 h1920 [] := K0.trans Kc1920 (own_all0 )
  have pre1921 : ∀ t, Steps p.tables e below (T1920.setTop (mkF m 16 #[iv p0, iv p1, iv p2, iv p3, iv (p3 &&& (3 : Int32)), iv ln, .unset, .unset, .unset, .unset, .unset, .unset, .unset, .unset, .unset, .unset, .unset, .unset] [(.ref r_1920)])) t → Steps p.tables e below (s₁.setTop (entryFrame m #[(.int p0), (.int p1), (.int p2), (.int p3)] maxLocals)) t := fun t kt => pre1919 _ (st1920 _ kt)
  have sz_r_1920 : h0.size ≤ r_1920 := Nat.le_trans K0.1 P1920_0
  have ne_ad_r_1920 : ad ≠ r_1920 := Nat.ne_of_lt (Nat.lt_of_lt_of_le (G2.ext O0.2).lt P1920_0)
  have g_r_1920 : n0 ≤ r_1920 := Nat.le_trans (Nat.le_trans (Nat.le_of_eq O0.1.symm) O0.2.1) sz_r_1920
  have pre1922 : ∀ t, Steps p.tables e below (T1920.setTop (mkF m 21 #[iv p0, iv p1, iv p2, iv p3, iv (p3 &&& (3 : Int32)), iv ln, rv r_1920, .unset, .unset, .unset, .unset, .unset, .unset, .unset, .unset, .unset, .unset, .unset] [(.int ln), (.int p0)])) t → Steps p.tables e below (s₁.setTop (entryFrame m #[(.int p0), (.int p1), (.int p2), (.int p3)] maxLocals)) t := fun t kt => by
    refine pre1921 _ ?_
    show Steps p.tables e below (T1920.setTop (mkF m 16 #[iv p0, iv p1, iv p2, iv p3, iv (p3 &&& (3 : Int32)), iv ln, .unset, .unset, .unset, .unset, .unset, .unset, .unset, .unset, .unset, .unset, .unset, .unset] [(.ref r_1920)])) _
    refine XS.astore X1920.here hx rfl (hb hby at_16) rfl rfl (l' := #[iv p0, iv p1, iv p2, iv p3, iv (p3 &&& (3 : Int32)), iv ln, rv r_1920, .unset, .unset, .unset, .unset, .unset, .unset, .unset, .unset, .unset, .unset, .unset]) rfl ?_
    refine XS.iloadN X1920.here hx rfl (hb hby at_18) rfl ?_
    refine XS.iload X1920.here hx rfl (hb hby at_19) rfl ?_
    exact kt
  obtain ⟨_, _, ⟨T1923, L1923, k1923, n1923⟩, -, X1923, ⟨Lc1923, hQ1923, l1923, y1923, z1923⟩, st1923⟩ := Jvm.LawKit.callS X1920 hx (y := (⟨"com/example/homethread/homethread/cli/ScenarioReportExitStatusPinLaw", "obs", "(II)Ljava/lang/String;"⟩ : MethodName)) hown (mvT hZ (W 37 rfl)) (mvT hZ (W 38 rfl)) (mvT hZ (W 2 rfl)) (mvT hZ (W 39 rfl)) (by decide) (backOf (W := 0) (rm_obs l Z a0 hw [] p0 ln cz h1920 n0 O1920 G0 qz) hZ (W 39 rfl) (W 2 rfl) (by decide) (by decide)) (g := (mkF m 21 #[iv p0, iv p1, iv p2, iv p3, iv (p3 &&& (3 : Int32)), iv ln, rv r_1920, .unset, .unset, .unset, .unset, .unset, .unset, .unset, .unset, .unset, .unset, .unset] [(.int ln), (.int p0)])) rfl (by rw [hml]; rfl) (argsL := [(.int p0), (.int ln)]) (rest := []) (lenOf pd_40 rfl) rfl (by show 2 * 0 + _ ≤ _; exact Nat.le_of_eq rfl) (hb hby at_21) (fun _ _ => ⟨rfl, e1920, (by decide : 3 + 3 ≤ _), (by decide : 8 + 8 ≤ _)⟩)
  dsimp only [Pt.U, Pt.locs, Pt.cells, Pt.slots] at X1923 l1923 y1923 z1923 st1923 hQ1923
  replace l1923 := l1923.symm
  replace y1923 : 6 = k1923 := y1923.symm
  replace z1923 : 16 = n1923 := z1923.symm
  subst l1923 y1923 z1923
  obtain ⟨r_1923, rfl, M1923, Kc1923, O1923, J1923_0, P1923_0⟩ := hQ1923
  obtain ⟨h1923, e1923⟩ : ∃ z, T1923.heap = z := ⟨_, rfl⟩
  rw [e1923] at Kc1923 O1923 J1923_0
  try rw [e1923] at P1923_0
  have N1923 := Fr.app N1920 M1923
  have K1923 : Keep h0 h1923 [] := K1920.trans Kc1923 (own_all0 )
  have pre1924 : ∀ t, Steps p.tables e below (T1923.setTop (mkF m 24 #[iv p0, iv p1, iv p2, iv p3, iv (p3 &&& (3 : Int32)), iv ln, rv r_1920, .unset, .unset, .unset, .unset, .unset, .unset, .unset, .unset, .unset, .unset, .unset] [(.ref r_1923)])) t → Steps p.tables e below (s₁.setTop (entryFrame m #[(.int p0), (.int p1), (.int p2), (.int p3)] maxLocals)) t := fun t kt => pre1922 _ (st1923 _ kt)
  have F1925 := own_str_ext J1920_0 (own_ext_keep0 Kc1923)
  have sz_r_1923 : h0.size ≤ r_1923 := Nat.le_trans K1920.1 P1923_0
  have ne_ad_r_1923 : ad ≠ r_1923 := Nat.ne_of_lt (Nat.lt_of_lt_of_le (G2.ext O1920.2).lt P1923_0)
  have ne_r_1920_r_1923 : r_1920 ≠ r_1923 := Nat.ne_of_lt (Nat.lt_of_lt_of_le (own_str_lt J1920_0) P1923_0)
  have g_r_1923 : n0 ≤ r_1923 := Nat.le_trans (Nat.le_trans (Nat.le_of_eq O0.1.symm) O0.2.1) sz_r_1923
  have pre1926 : ∀ t, Steps p.tables e below (T1923.setTop (mkF m 29 #[iv p0, iv p1, iv p2, iv p3, iv (p3 &&& (3 : Int32)), iv ln, rv r_1920, rv r_1923, .unset, .unset, .unset, .unset, .unset, .unset, .unset, .unset, .unset, .unset] [(.int ln), (.int p0)])) t → Steps p.tables e below (s₁.setTop (entryFrame m #[(.int p0), (.int p1), (.int p2), (.int p3)] maxLocals)) t := fun t kt => by
    refine pre1924 _ ?_
    show Steps p.tables e below (T1923.setTop (mkF m 24 #[iv p0, iv p1, iv p2, iv p3, iv (p3 &&& (3 : Int32)), iv ln, rv r_1920, .unset, .unset, .unset, .unset, .unset, .unset, .unset, .unset, .unset, .unset, .unset] [(.ref r_1923)])) _
    refine XS.astore X1923.here hx rfl (hb hby at_24) rfl rfl (l' := #[iv p0, iv p1, iv p2, iv p3, iv (p3 &&& (3 : Int32)), iv ln, rv r_1920, rv r_1923, .unset, .unset, .unset, .unset, .unset, .unset, .unset, .unset, .unset, .unset]) rfl ?_
    refine XS.iloadN X1923.here hx rfl (hb hby at_26) rfl ?_
    refine XS.iload X1923.here hx rfl (hb hby at_27) rfl ?_
    exact kt
  obtain ⟨_, _, ⟨T1927, L1927, k1927, n1927⟩, -, X1927, ⟨Lc1927, hQ1927, l1927, y1927, z1927⟩, st1927⟩ := Jvm.LawKit.callS X1923 hx (y := (⟨"com/example/homethread/homethread/cli/ScenarioReportExitStatusPinLaw", "same", "(II)Z"⟩ : MethodName)) hown (mvT hZ (W 46 rfl)) (mvT hZ (W 47 rfl)) (mvT hZ (W 2 rfl)) (mvT hZ (W 48 rfl)) (by decide) (backOf (W := 0) (rm_same l Z a0 hw [] p0 ln h1923 n0 O1923) hZ (W 48 rfl) (W 2 rfl) (by decide) (by decide)) (g := (mkF m 29 #[iv p0, iv p1, iv p2, iv p3, iv (p3 &&& (3 : Int32)), iv ln, rv r_1920, rv r_1923, .unset, .unset, .unset, .unset, .unset, .unset, .unset, .unset, .unset, .unset] [(.int ln), (.int p0)])) rfl (by rw [hml]; rfl) (argsL := [(.int p0), (.int ln)]) (rest := []) (lenOf pd_41 rfl) rfl (by show 2 * 0 + _ ≤ _; exact Nat.le_of_eq rfl) (hb hby at_29) (fun _ _ => ⟨rfl, e1923, (by decide : 6 + 0 ≤ _), (by decide : 16 + 0 ≤ _)⟩)
  dsimp only [Pt.U, Pt.locs, Pt.cells, Pt.slots] at X1927 l1927 y1927 z1927 st1927 hQ1927
  replace l1927 := l1927.symm
  replace y1927 : 6 = k1927 := y1927.symm
  replace z1927 : 16 = n1927 := z1927.symm
  subst l1927 y1927 z1927
  obtain ⟨rfl, M1927, e1927⟩ := hQ1927
  have N1927 := Fr.app N1923 M1927
  have pre1928 : ∀ t, Steps p.tables e below (T1927.setTop (mkF m 32 #[iv p0, iv p1, iv p2, iv p3, iv (p3 &&& (3 : Int32)), iv ln, rv r_1920, rv r_1923, .unset, .unset, .unset, .unset, .unset, .unset, .unset, .unset, .unset, .unset] [(.int (own_same p0 ln))])) t → Steps p.tables e below (s₁.setTop (entryFrame m #[(.int p0), (.int p1), (.int p2), (.int p3)] maxLocals)) t := fun t kt => pre1926 _ (st1927 _ kt)
  obtain ⟨s0, hs0⟩ : ∃ z, z = (own_same p0 ln) := ⟨_, rfl⟩
  rw [← hs0] at pre1928
  have pre1929 : ∀ t, Steps p.tables e below (T1927.setTop (mkF m 39 #[iv p0, iv p1, iv p2, iv p3, iv (p3 &&& (3 : Int32)), iv ln, rv r_1920, rv r_1923, iv s0, .unset, .unset, .unset, .unset, .unset, .unset, .unset, .unset, .unset] [(.int ((ln.toUInt32 >>> ((2 : Int32) &&& 31).toUInt32).toInt32)), (.int p1)])) t → Steps p.tables e below (s₁.setTop (entryFrame m #[(.int p0), (.int p1), (.int p2), (.int p3)] maxLocals)) t := fun t kt => by
    refine pre1928 _ ?_
    show Steps p.tables e below (T1927.setTop (mkF m 32 #[iv p0, iv p1, iv p2, iv p3, iv (p3 &&& (3 : Int32)), iv ln, rv r_1920, rv r_1923, .unset, .unset, .unset, .unset, .unset, .unset, .unset, .unset, .unset, .unset] [(.int s0)])) _
    refine XS.istore X1927.here hx rfl (hb hby at_32) rfl (l' := #[iv p0, iv p1, iv p2, iv p3, iv (p3 &&& (3 : Int32)), iv ln, rv r_1920, rv r_1923, iv s0, .unset, .unset, .unset, .unset, .unset, .unset, .unset, .unset, .unset]) rfl ?_
    refine XS.iloadN X1927.here hx rfl (hb hby at_34) rfl ?_
    refine XS.iload X1927.here hx rfl (hb hby at_35) rfl ?_
    refine XS.iconst X1927.here hx rfl (hb hby at_37) ?_
    refine XS.iushr X1927.here hx rfl (hb hby at_38) rfl ?_
    exact kt
  obtain ⟨l2, hl2⟩ : ∃ z, z = ((ln.toUInt32 >>> ((2 : Int32) &&& 31).toUInt32).toInt32) := ⟨_, rfl⟩
  rw [← hl2] at pre1929
  obtain ⟨_, _, ⟨T1930, L1930, k1930, n1930⟩, -, X1930, ⟨Lc1930, hQ1930, l1930, y1930, z1930⟩, st1930⟩ := Jvm.LawKit.callS X1927 hx (y := (⟨"com/example/homethread/homethread/cli/ScenarioReportExitStatusPinLaw", "exp", "(II)Ljava/lang/String;"⟩ : MethodName)) hown (mvT hZ (W 0 rfl)) (mvT hZ (W 1 rfl)) (mvT hZ (W 2 rfl)) (mvT hZ (W 3 rfl)) (by decide) (backOf (W := 0) (rm_exp l Z a0 hw [] p1 l2 cz h1923 n0 O1923 G0 qz) hZ (W 3 rfl) (W 2 rfl) (by decide) (by decide)) (g := (mkF m 39 #[iv p0, iv p1, iv p2, iv p3, iv (p3 &&& (3 : Int32)), iv ln, rv r_1920, rv r_1923, iv s0, .unset, .unset, .unset, .unset, .unset, .unset, .unset, .unset, .unset] [(.int l2), (.int p1)])) rfl (by rw [hml]; rfl) (argsL := [(.int p1), (.int l2)]) (rest := []) (lenOf pd_40 rfl) rfl (by show 2 * 0 + _ ≤ _; exact Nat.le_of_eq rfl) (hb hby at_39) (fun _ _ => ⟨rfl, e1927, (by decide : 6 + 3 ≤ _), (by decide : 16 + 8 ≤ _)⟩)
  dsimp only [Pt.U, Pt.locs, Pt.cells, Pt.slots] at X1930 l1930 y1930 z1930 st1930 hQ1930
  replace l1930 := l1930.symm
  replace y1930 : 9 = k1930 := y1930.symm
  replace z1930 : 24 = n1930 := z1930.symm
  subst l1930 y1930 z1930
  obtain ⟨r_1930, rfl, M1930, Kc1930, O1930, J1930_0, P1930_0⟩ := hQ1930
  obtain ⟨h1930, e1930⟩ : ∃ z, T1930.heap = z := ⟨_, rfl⟩
  rw [e1930] at Kc1930 O1930 J1930_0
  try rw [e1930] at P1930_0
  have N1930 := Fr.app N1927 M1930
  have K1930 : Keep h0 h1930 [] := K1923.trans Kc1930 (own_all0 )
  have pre1931 : ∀ t, Steps p.tables e below (T1930.setTop (mkF m 42 #[iv p0, iv p1, iv p2, iv p3, iv (p3 &&& (3 : Int32)), iv ln, rv r_1920, rv r_1923, iv s0, .unset, .unset, .unset, .unset, .unset, .unset, .unset, .unset, .unset] [(.ref r_1930)])) t → Steps p.tables e below (s₁.setTop (entryFrame m #[(.int p0), (.int p1), (.int p2), (.int p3)] maxLocals)) t := fun t kt => pre1929 _ (st1930 _ kt)
  have F1932 := own_str_ext F1925 (own_ext_keep0 Kc1930)
  have F1933 := own_str_ext J1923_0 (own_ext_keep0 Kc1930)
  have sz_r_1930 : h0.size ≤ r_1930 := Nat.le_trans K1923.1 P1930_0
  have ne_ad_r_1930 : ad ≠ r_1930 := Nat.ne_of_lt (Nat.lt_of_lt_of_le (G2.ext O1923.2).lt P1930_0)
  have ne_r_1920_r_1930 : r_1920 ≠ r_1930 := Nat.ne_of_lt (Nat.lt_of_lt_of_le (own_str_lt F1925) P1930_0)
  have ne_r_1923_r_1930 : r_1923 ≠ r_1930 := Nat.ne_of_lt (Nat.lt_of_lt_of_le (own_str_lt J1923_0) P1930_0)
  have g_r_1930 : n0 ≤ r_1930 := Nat.le_trans (Nat.le_trans (Nat.le_of_eq O0.1.symm) O0.2.1) sz_r_1930
  have pre1934 : ∀ t, Steps p.tables e below (T1930.setTop (mkF m 49 #[iv p0, iv p1, iv p2, iv p3, iv (p3 &&& (3 : Int32)), iv ln, rv r_1920, rv r_1923, iv s0, rv r_1930, .unset, .unset, .unset, .unset, .unset, .unset, .unset, .unset] [(.int ((ln.toUInt32 >>> ((2 : Int32) &&& 31).toUInt32).toInt32)), (.int p1)])) t → Steps p.tables e below (s₁.setTop (entryFrame m #[(.int p0), (.int p1), (.int p2), (.int p3)] maxLocals)) t := fun t kt => by
    refine pre1931 _ ?_
    show Steps p.tables e below (T1930.setTop (mkF m 42 #[iv p0, iv p1, iv p2, iv p3, iv (p3 &&& (3 : Int32)), iv ln, rv r_1920, rv r_1923, iv s0, .unset, .unset, .unset, .unset, .unset, .unset, .unset, .unset, .unset] [(.ref r_1930)])) _
    refine XS.astore X1930.here hx rfl (hb hby at_42) rfl rfl (l' := #[iv p0, iv p1, iv p2, iv p3, iv (p3 &&& (3 : Int32)), iv ln, rv r_1920, rv r_1923, iv s0, rv r_1930, .unset, .unset, .unset, .unset, .unset, .unset, .unset, .unset]) rfl ?_
    refine XS.iloadN X1930.here hx rfl (hb hby at_44) rfl ?_
    refine XS.iload X1930.here hx rfl (hb hby at_45) rfl ?_
    refine XS.iconst X1930.here hx rfl (hb hby at_47) ?_
    refine XS.iushr X1930.here hx rfl (hb hby at_48) rfl ?_
    exact kt
  rw [← hl2] at pre1934
  obtain ⟨_, _, ⟨T1935, L1935, k1935, n1935⟩, -, X1935, ⟨Lc1935, hQ1935, l1935, y1935, z1935⟩, st1935⟩ := Jvm.LawKit.callS X1930 hx (y := (⟨"com/example/homethread/homethread/cli/ScenarioReportExitStatusPinLaw", "obs", "(II)Ljava/lang/String;"⟩ : MethodName)) hown (mvT hZ (W 37 rfl)) (mvT hZ (W 38 rfl)) (mvT hZ (W 2 rfl)) (mvT hZ (W 39 rfl)) (by decide) (backOf (W := 0) (rm_obs l Z a0 hw [] p1 l2 cz h1930 n0 O1930 G0 qz) hZ (W 39 rfl) (W 2 rfl) (by decide) (by decide)) (g := (mkF m 49 #[iv p0, iv p1, iv p2, iv p3, iv (p3 &&& (3 : Int32)), iv ln, rv r_1920, rv r_1923, iv s0, rv r_1930, .unset, .unset, .unset, .unset, .unset, .unset, .unset, .unset] [(.int l2), (.int p1)])) rfl (by rw [hml]; rfl) (argsL := [(.int p1), (.int l2)]) (rest := []) (lenOf pd_40 rfl) rfl (by show 2 * 0 + _ ≤ _; exact Nat.le_of_eq rfl) (hb hby at_49) (fun _ _ => ⟨rfl, e1930, (by decide : 9 + 3 ≤ _), (by decide : 24 + 8 ≤ _)⟩)
  dsimp only [Pt.U, Pt.locs, Pt.cells, Pt.slots] at X1935 l1935 y1935 z1935 st1935 hQ1935
  replace l1935 := l1935.symm
  replace y1935 : 12 = k1935 := y1935.symm
  replace z1935 : 32 = n1935 := z1935.symm
  subst l1935 y1935 z1935
  obtain ⟨r_1935, rfl, M1935, Kc1935, O1935, J1935_0, P1935_0⟩ := hQ1935
  obtain ⟨h1935, e1935⟩ : ∃ z, T1935.heap = z := ⟨_, rfl⟩
  rw [e1935] at Kc1935 O1935 J1935_0
  try rw [e1935] at P1935_0
  have N1935 := Fr.app N1930 M1935
  have K1935 : Keep h0 h1935 [] := K1930.trans Kc1935 (own_all0 )
  have pre1936 : ∀ t, Steps p.tables e below (T1935.setTop (mkF m 52 #[iv p0, iv p1, iv p2, iv p3, iv (p3 &&& (3 : Int32)), iv ln, rv r_1920, rv r_1923, iv s0, rv r_1930, .unset, .unset, .unset, .unset, .unset, .unset, .unset, .unset] [(.ref r_1935)])) t → Steps p.tables e below (s₁.setTop (entryFrame m #[(.int p0), (.int p1), (.int p2), (.int p3)] maxLocals)) t := fun t kt => pre1934 _ (st1935 _ kt)
  have F1937 := own_str_ext F1932 (own_ext_keep0 Kc1935)
  have F1938 := own_str_ext F1933 (own_ext_keep0 Kc1935)
  have F1939 := own_str_ext J1930_0 (own_ext_keep0 Kc1935)
  have sz_r_1935 : h0.size ≤ r_1935 := Nat.le_trans K1930.1 P1935_0
  have ne_ad_r_1935 : ad ≠ r_1935 := Nat.ne_of_lt (Nat.lt_of_lt_of_le (G2.ext O1930.2).lt P1935_0)
  have ne_r_1920_r_1935 : r_1920 ≠ r_1935 := Nat.ne_of_lt (Nat.lt_of_lt_of_le (own_str_lt F1932) P1935_0)
  have ne_r_1923_r_1935 : r_1923 ≠ r_1935 := Nat.ne_of_lt (Nat.lt_of_lt_of_le (own_str_lt F1933) P1935_0)
  have ne_r_1930_r_1935 : r_1930 ≠ r_1935 := Nat.ne_of_lt (Nat.lt_of_lt_of_le (own_str_lt J1930_0) P1935_0)
  have g_r_1935 : n0 ≤ r_1935 := Nat.le_trans (Nat.le_trans (Nat.le_of_eq O0.1.symm) O0.2.1) sz_r_1935
  have pre1940 : ∀ t, Steps p.tables e below (T1935.setTop (mkF m 59 #[iv p0, iv p1, iv p2, iv p3, iv (p3 &&& (3 : Int32)), iv ln, rv r_1920, rv r_1923, iv s0, rv r_1930, rv r_1935, .unset, .unset, .unset, .unset, .unset, .unset, .unset] [(.int ((ln.toUInt32 >>> ((2 : Int32) &&& 31).toUInt32).toInt32)), (.int p1)])) t → Steps p.tables e below (s₁.setTop (entryFrame m #[(.int p0), (.int p1), (.int p2), (.int p3)] maxLocals)) t := fun t kt => by
    refine pre1936 _ ?_
    show Steps p.tables e below (T1935.setTop (mkF m 52 #[iv p0, iv p1, iv p2, iv p3, iv (p3 &&& (3 : Int32)), iv ln, rv r_1920, rv r_1923, iv s0, rv r_1930, .unset, .unset, .unset, .unset, .unset, .unset, .unset, .unset] [(.ref r_1935)])) _
    refine XS.astore X1935.here hx rfl (hb hby at_52) rfl rfl (l' := #[iv p0, iv p1, iv p2, iv p3, iv (p3 &&& (3 : Int32)), iv ln, rv r_1920, rv r_1923, iv s0, rv r_1930, rv r_1935, .unset, .unset, .unset, .unset, .unset, .unset, .unset]) rfl ?_
    refine XS.iloadN X1935.here hx rfl (hb hby at_54) rfl ?_
    refine XS.iload X1935.here hx rfl (hb hby at_55) rfl ?_
    refine XS.iconst X1935.here hx rfl (hb hby at_57) ?_
    refine XS.iushr X1935.here hx rfl (hb hby at_58) rfl ?_
    exact kt
  rw [← hl2] at pre1940
  obtain ⟨_, _, ⟨T1941, L1941, k1941, n1941⟩, -, X1941, ⟨Lc1941, hQ1941, l1941, y1941, z1941⟩, st1941⟩ := Jvm.LawKit.callS X1935 hx (y := (⟨"com/example/homethread/homethread/cli/ScenarioReportExitStatusPinLaw", "same", "(II)Z"⟩ : MethodName)) hown (mvT hZ (W 46 rfl)) (mvT hZ (W 47 rfl)) (mvT hZ (W 2 rfl)) (mvT hZ (W 48 rfl)) (by decide) (backOf (W := 0) (rm_same l Z a0 hw [] p1 l2 h1935 n0 O1935) hZ (W 48 rfl) (W 2 rfl) (by decide) (by decide)) (g := (mkF m 59 #[iv p0, iv p1, iv p2, iv p3, iv (p3 &&& (3 : Int32)), iv ln, rv r_1920, rv r_1923, iv s0, rv r_1930, rv r_1935, .unset, .unset, .unset, .unset, .unset, .unset, .unset] [(.int l2), (.int p1)])) rfl (by rw [hml]; rfl) (argsL := [(.int p1), (.int l2)]) (rest := []) (lenOf pd_41 rfl) rfl (by show 2 * 0 + _ ≤ _; exact Nat.le_of_eq rfl) (hb hby at_59) (fun _ _ => ⟨rfl, e1935, (by decide : 12 + 0 ≤ _), (by decide : 32 + 0 ≤ _)⟩)
  dsimp only [Pt.U, Pt.locs, Pt.cells, Pt.slots] at X1941 l1941 y1941 z1941 st1941 hQ1941
  replace l1941 := l1941.symm
  replace y1941 : 12 = k1941 := y1941.symm
  replace z1941 : 32 = n1941 := z1941.symm
  subst l1941 y1941 z1941
  obtain ⟨rfl, M1941, e1941⟩ := hQ1941
  have N1941 := Fr.app N1935 M1941
  have pre1942 : ∀ t, Steps p.tables e below (T1941.setTop (mkF m 62 #[iv p0, iv p1, iv p2, iv p3, iv (p3 &&& (3 : Int32)), iv ln, rv r_1920, rv r_1923, iv s0, rv r_1930, rv r_1935, .unset, .unset, .unset, .unset, .unset, .unset, .unset] [(.int (own_same p1 l2))])) t → Steps p.tables e below (s₁.setTop (entryFrame m #[(.int p0), (.int p1), (.int p2), (.int p3)] maxLocals)) t := fun t kt => pre1940 _ (st1941 _ kt)
  obtain ⟨s1, hs1⟩ : ∃ z, z = (own_same p1 l2) := ⟨_, rfl⟩
  rw [← hs1] at pre1942
  have pre1943 : ∀ t, Steps p.tables e below (T1941.setTop (mkF m 69 #[iv p0, iv p1, iv p2, iv p3, iv (p3 &&& (3 : Int32)), iv ln, rv r_1920, rv r_1923, iv s0, rv r_1930, rv r_1935, iv s1, .unset, .unset, .unset, .unset, .unset, .unset] [(.int ((ln.toUInt32 >>> ((4 : Int32) &&& 31).toUInt32).toInt32)), (.int p2)])) t → Steps p.tables e below (s₁.setTop (entryFrame m #[(.int p0), (.int p1), (.int p2), (.int p3)] maxLocals)) t := fun t kt => by
    refine pre1942 _ ?_
    show Steps p.tables e below (T1941.setTop (mkF m 62 #[iv p0, iv p1, iv p2, iv p3, iv (p3 &&& (3 : Int32)), iv ln, rv r_1920, rv r_1923, iv s0, rv r_1930, rv r_1935, .unset, .unset, .unset, .unset, .unset, .unset, .unset] [(.int s1)])) _
    refine XS.istore X1941.here hx rfl (hb hby at_62) rfl (l' := #[iv p0, iv p1, iv p2, iv p3, iv (p3 &&& (3 : Int32)), iv ln, rv r_1920, rv r_1923, iv s0, rv r_1930, rv r_1935, iv s1, .unset, .unset, .unset, .unset, .unset, .unset]) rfl ?_
    refine XS.iloadN X1941.here hx rfl (hb hby at_64) rfl ?_
    refine XS.iload X1941.here hx rfl (hb hby at_65) rfl ?_
    refine XS.iconst X1941.here hx rfl (hb hby at_67) ?_
    refine XS.iushr X1941.here hx rfl (hb hby at_68) rfl ?_
    exact kt
  obtain ⟨l4, hl4⟩ : ∃ z, z = ((ln.toUInt32 >>> ((4 : Int32) &&& 31).toUInt32).toInt32) := ⟨_, rfl⟩
  rw [← hl4] at pre1943
  obtain ⟨_, _, ⟨T1944, L1944, k1944, n1944⟩, -, X1944, ⟨Lc1944, hQ1944, l1944, y1944, z1944⟩, st1944⟩ := Jvm.LawKit.callS X1941 hx (y := (⟨"com/example/homethread/homethread/cli/ScenarioReportExitStatusPinLaw", "exp", "(II)Ljava/lang/String;"⟩ : MethodName)) hown (mvT hZ (W 0 rfl)) (mvT hZ (W 1 rfl)) (mvT hZ (W 2 rfl)) (mvT hZ (W 3 rfl)) (by decide) (backOf (W := 0) (rm_exp l Z a0 hw [] p2 l4 cz h1935 n0 O1935 G0 qz) hZ (W 3 rfl) (W 2 rfl) (by decide) (by decide)) (g := (mkF m 69 #[iv p0, iv p1, iv p2, iv p3, iv (p3 &&& (3 : Int32)), iv ln, rv r_1920, rv r_1923, iv s0, rv r_1930, rv r_1935, iv s1, .unset, .unset, .unset, .unset, .unset, .unset] [(.int l4), (.int p2)])) rfl (by rw [hml]; rfl) (argsL := [(.int p2), (.int l4)]) (rest := []) (lenOf pd_40 rfl) rfl (by show 2 * 0 + _ ≤ _; exact Nat.le_of_eq rfl) (hb hby at_69) (fun _ _ => ⟨rfl, e1941, (by decide : 12 + 3 ≤ _), (by decide : 32 + 8 ≤ _)⟩)
  dsimp only [Pt.U, Pt.locs, Pt.cells, Pt.slots] at X1944 l1944 y1944 z1944 st1944 hQ1944
  replace l1944 := l1944.symm
  replace y1944 : 15 = k1944 := y1944.symm
  replace z1944 : 40 = n1944 := z1944.symm
  subst l1944 y1944 z1944
  obtain ⟨r_1944, rfl, M1944, Kc1944, O1944, J1944_0, P1944_0⟩ := hQ1944
  obtain ⟨h1944, e1944⟩ : ∃ z, T1944.heap = z := ⟨_, rfl⟩
  rw [e1944] at Kc1944 O1944 J1944_0
  try rw [e1944] at P1944_0
  have N1944 := Fr.app N1941 M1944
  have K1944 : Keep h0 h1944 [] := K1935.trans Kc1944 (own_all0 )
  have pre1945 : ∀ t, Steps p.tables e below (T1944.setTop (mkF m 72 #[iv p0, iv p1, iv p2, iv p3, iv (p3 &&& (3 : Int32)), iv ln, rv r_1920, rv r_1923, iv s0, rv r_1930, rv r_1935, iv s1, .unset, .unset, .unset, .unset, .unset, .unset] [(.ref r_1944)])) t → Steps p.tables e below (s₁.setTop (entryFrame m #[(.int p0), (.int p1), (.int p2), (.int p3)] maxLocals)) t := fun t kt => pre1943 _ (st1944 _ kt)
  have F1946 := own_str_ext F1937 (own_ext_keep0 Kc1944)
  have F1947 := own_str_ext F1938 (own_ext_keep0 Kc1944)
  have F1948 := own_str_ext F1939 (own_ext_keep0 Kc1944)
  have F1949 := own_str_ext J1935_0 (own_ext_keep0 Kc1944)
  have sz_r_1944 : h0.size ≤ r_1944 := Nat.le_trans K1935.1 P1944_0
  have ne_ad_r_1944 : ad ≠ r_1944 := Nat.ne_of_lt (Nat.lt_of_lt_of_le (G2.ext O1935.2).lt P1944_0)
  have ne_r_1920_r_1944 : r_1920 ≠ r_1944 := Nat.ne_of_lt (Nat.lt_of_lt_of_le (own_str_lt F1937) P1944_0)
  have ne_r_1923_r_1944 : r_1923 ≠ r_1944 := Nat.ne_of_lt (Nat.lt_of_lt_of_le (own_str_lt F1938) P1944_0)
  have ne_r_1930_r_1944 : r_1930 ≠ r_1944 := Nat.ne_of_lt (Nat.lt_of_lt_of_le (own_str_lt F1939) P1944_0)
  have ne_r_1935_r_1944 : r_1935 ≠ r_1944 := Nat.ne_of_lt (Nat.lt_of_lt_of_le (own_str_lt J1935_0) P1944_0)
  have g_r_1944 : n0 ≤ r_1944 := Nat.le_trans (Nat.le_trans (Nat.le_of_eq O0.1.symm) O0.2.1) sz_r_1944
  have pre1950 : ∀ t, Steps p.tables e below (T1944.setTop (mkF m 79 #[iv p0, iv p1, iv p2, iv p3, iv (p3 &&& (3 : Int32)), iv ln, rv r_1920, rv r_1923, iv s0, rv r_1930, rv r_1935, iv s1, rv r_1944, .unset, .unset, .unset, .unset, .unset] [(.int ((ln.toUInt32 >>> ((4 : Int32) &&& 31).toUInt32).toInt32)), (.int p2)])) t → Steps p.tables e below (s₁.setTop (entryFrame m #[(.int p0), (.int p1), (.int p2), (.int p3)] maxLocals)) t := fun t kt => by
    refine pre1945 _ ?_
    show Steps p.tables e below (T1944.setTop (mkF m 72 #[iv p0, iv p1, iv p2, iv p3, iv (p3 &&& (3 : Int32)), iv ln, rv r_1920, rv r_1923, iv s0, rv r_1930, rv r_1935, iv s1, .unset, .unset, .unset, .unset, .unset, .unset] [(.ref r_1944)])) _
    refine XS.astore X1944.here hx rfl (hb hby at_72) rfl rfl (l' := #[iv p0, iv p1, iv p2, iv p3, iv (p3 &&& (3 : Int32)), iv ln, rv r_1920, rv r_1923, iv s0, rv r_1930, rv r_1935, iv s1, rv r_1944, .unset, .unset, .unset, .unset, .unset]) rfl ?_
    refine XS.iloadN X1944.here hx rfl (hb hby at_74) rfl ?_
    refine XS.iload X1944.here hx rfl (hb hby at_75) rfl ?_
    refine XS.iconst X1944.here hx rfl (hb hby at_77) ?_
    refine XS.iushr X1944.here hx rfl (hb hby at_78) rfl ?_
    exact kt
  rw [← hl4] at pre1950
  obtain ⟨_, _, ⟨T1951, L1951, k1951, n1951⟩, -, X1951, ⟨Lc1951, hQ1951, l1951, y1951, z1951⟩, st1951⟩ := Jvm.LawKit.callS X1944 hx (y := (⟨"com/example/homethread/homethread/cli/ScenarioReportExitStatusPinLaw", "obs", "(II)Ljava/lang/String;"⟩ : MethodName)) hown (mvT hZ (W 37 rfl)) (mvT hZ (W 38 rfl)) (mvT hZ (W 2 rfl)) (mvT hZ (W 39 rfl)) (by decide) (backOf (W := 0) (rm_obs l Z a0 hw [] p2 l4 cz h1944 n0 O1944 G0 qz) hZ (W 39 rfl) (W 2 rfl) (by decide) (by decide)) (g := (mkF m 79 #[iv p0, iv p1, iv p2, iv p3, iv (p3 &&& (3 : Int32)), iv ln, rv r_1920, rv r_1923, iv s0, rv r_1930, rv r_1935, iv s1, rv r_1944, .unset, .unset, .unset, .unset, .unset] [(.int l4), (.int p2)])) rfl (by rw [hml]; rfl) (argsL := [(.int p2), (.int l4)]) (rest := []) (lenOf pd_40 rfl) rfl (by show 2 * 0 + _ ≤ _; exact Nat.le_of_eq rfl) (hb hby at_79) (fun _ _ => ⟨rfl, e1944, (by decide : 15 + 3 ≤ _), (by decide : 40 + 8 ≤ _)⟩)
  dsimp only [Pt.U, Pt.locs, Pt.cells, Pt.slots] at X1951 l1951 y1951 z1951 st1951 hQ1951
  replace l1951 := l1951.symm
  replace y1951 : 18 = k1951 := y1951.symm
  replace z1951 : 48 = n1951 := z1951.symm
  subst l1951 y1951 z1951
  obtain ⟨r_1951, rfl, M1951, Kc1951, O1951, J1951_0, P1951_0⟩ := hQ1951
  obtain ⟨h1951, e1951⟩ : ∃ z, T1951.heap = z := ⟨_, rfl⟩
  rw [e1951] at Kc1951 O1951 J1951_0
  try rw [e1951] at P1951_0
  have N1951 := Fr.app N1944 M1951
  have K1951 : Keep h0 h1951 [] := K1944.trans Kc1951 (own_all0 )
  have pre1952 : ∀ t, Steps p.tables e below (T1951.setTop (mkF m 82 #[iv p0, iv p1, iv p2, iv p3, iv (p3 &&& (3 : Int32)), iv ln, rv r_1920, rv r_1923, iv s0, rv r_1930, rv r_1935, iv s1, rv r_1944, .unset, .unset, .unset, .unset, .unset] [(.ref r_1951)])) t → Steps p.tables e below (s₁.setTop (entryFrame m #[(.int p0), (.int p1), (.int p2), (.int p3)] maxLocals)) t := fun t kt => pre1950 _ (st1951 _ kt)
  have F1953 := own_str_ext F1946 (own_ext_keep0 Kc1951)
  have F1954 := own_str_ext F1947 (own_ext_keep0 Kc1951)
  have F1955 := own_str_ext F1948 (own_ext_keep0 Kc1951)
  have F1956 := own_str_ext F1949 (own_ext_keep0 Kc1951)
  have F1957 := own_str_ext J1944_0 (own_ext_keep0 Kc1951)
  have sz_r_1951 : h0.size ≤ r_1951 := Nat.le_trans K1944.1 P1951_0
  have ne_ad_r_1951 : ad ≠ r_1951 := Nat.ne_of_lt (Nat.lt_of_lt_of_le (G2.ext O1944.2).lt P1951_0)
  have ne_r_1920_r_1951 : r_1920 ≠ r_1951 := Nat.ne_of_lt (Nat.lt_of_lt_of_le (own_str_lt F1946) P1951_0)
  have ne_r_1923_r_1951 : r_1923 ≠ r_1951 := Nat.ne_of_lt (Nat.lt_of_lt_of_le (own_str_lt F1947) P1951_0)
  have ne_r_1930_r_1951 : r_1930 ≠ r_1951 := Nat.ne_of_lt (Nat.lt_of_lt_of_le (own_str_lt F1948) P1951_0)
  have ne_r_1935_r_1951 : r_1935 ≠ r_1951 := Nat.ne_of_lt (Nat.lt_of_lt_of_le (own_str_lt F1949) P1951_0)
  have ne_r_1944_r_1951 : r_1944 ≠ r_1951 := Nat.ne_of_lt (Nat.lt_of_lt_of_le (own_str_lt J1944_0) P1951_0)
  have g_r_1951 : n0 ≤ r_1951 := Nat.le_trans (Nat.le_trans (Nat.le_of_eq O0.1.symm) O0.2.1) sz_r_1951
  have pre1958 : ∀ t, Steps p.tables e below (T1951.setTop (mkF m 89 #[iv p0, iv p1, iv p2, iv p3, iv (p3 &&& (3 : Int32)), iv ln, rv r_1920, rv r_1923, iv s0, rv r_1930, rv r_1935, iv s1, rv r_1944, rv r_1951, .unset, .unset, .unset, .unset] [(.int ((ln.toUInt32 >>> ((4 : Int32) &&& 31).toUInt32).toInt32)), (.int p2)])) t → Steps p.tables e below (s₁.setTop (entryFrame m #[(.int p0), (.int p1), (.int p2), (.int p3)] maxLocals)) t := fun t kt => by
    refine pre1952 _ ?_
    show Steps p.tables e below (T1951.setTop (mkF m 82 #[iv p0, iv p1, iv p2, iv p3, iv (p3 &&& (3 : Int32)), iv ln, rv r_1920, rv r_1923, iv s0, rv r_1930, rv r_1935, iv s1, rv r_1944, .unset, .unset, .unset, .unset, .unset] [(.ref r_1951)])) _
    refine XS.astore X1951.here hx rfl (hb hby at_82) rfl rfl (l' := #[iv p0, iv p1, iv p2, iv p3, iv (p3 &&& (3 : Int32)), iv ln, rv r_1920, rv r_1923, iv s0, rv r_1930, rv r_1935, iv s1, rv r_1944, rv r_1951, .unset, .unset, .unset, .unset]) rfl ?_
    refine XS.iloadN X1951.here hx rfl (hb hby at_84) rfl ?_
    refine XS.iload X1951.here hx rfl (hb hby at_85) rfl ?_
    refine XS.iconst X1951.here hx rfl (hb hby at_87) ?_
    refine XS.iushr X1951.here hx rfl (hb hby at_88) rfl ?_
    exact kt
  rw [← hl4] at pre1958
  obtain ⟨_, _, ⟨T1959, L1959, k1959, n1959⟩, -, X1959, ⟨Lc1959, hQ1959, l1959, y1959, z1959⟩, st1959⟩ := Jvm.LawKit.callS X1951 hx (y := (⟨"com/example/homethread/homethread/cli/ScenarioReportExitStatusPinLaw", "same", "(II)Z"⟩ : MethodName)) hown (mvT hZ (W 46 rfl)) (mvT hZ (W 47 rfl)) (mvT hZ (W 2 rfl)) (mvT hZ (W 48 rfl)) (by decide) (backOf (W := 0) (rm_same l Z a0 hw [] p2 l4 h1951 n0 O1951) hZ (W 48 rfl) (W 2 rfl) (by decide) (by decide)) (g := (mkF m 89 #[iv p0, iv p1, iv p2, iv p3, iv (p3 &&& (3 : Int32)), iv ln, rv r_1920, rv r_1923, iv s0, rv r_1930, rv r_1935, iv s1, rv r_1944, rv r_1951, .unset, .unset, .unset, .unset] [(.int l4), (.int p2)])) rfl (by rw [hml]; rfl) (argsL := [(.int p2), (.int l4)]) (rest := []) (lenOf pd_41 rfl) rfl (by show 2 * 0 + _ ≤ _; exact Nat.le_of_eq rfl) (hb hby at_89) (fun _ _ => ⟨rfl, e1951, (by decide : 18 + 0 ≤ _), (by decide : 48 + 0 ≤ _)⟩)
  dsimp only [Pt.U, Pt.locs, Pt.cells, Pt.slots] at X1959 l1959 y1959 z1959 st1959 hQ1959
  replace l1959 := l1959.symm
  replace y1959 : 18 = k1959 := y1959.symm
  replace z1959 : 48 = n1959 := z1959.symm
  subst l1959 y1959 z1959
  obtain ⟨rfl, M1959, e1959⟩ := hQ1959
  have N1959 := Fr.app N1951 M1959
  have pre1960 : ∀ t, Steps p.tables e below (T1959.setTop (mkF m 92 #[iv p0, iv p1, iv p2, iv p3, iv (p3 &&& (3 : Int32)), iv ln, rv r_1920, rv r_1923, iv s0, rv r_1930, rv r_1935, iv s1, rv r_1944, rv r_1951, .unset, .unset, .unset, .unset] [(.int (own_same p2 l4))])) t → Steps p.tables e below (s₁.setTop (entryFrame m #[(.int p0), (.int p1), (.int p2), (.int p3)] maxLocals)) t := fun t kt => pre1958 _ (st1959 _ kt)
  obtain ⟨s2, hs2⟩ : ∃ z, z = (own_same p2 l4) := ⟨_, rfl⟩
  rw [← hs2] at pre1960
  have pre1961 : ∀ t, Steps p.tables e below (T1959.setTop (mkF m 94 #[iv p0, iv p1, iv p2, iv p3, iv (p3 &&& (3 : Int32)), iv ln, rv r_1920, rv r_1923, iv s0, rv r_1930, rv r_1935, iv s1, rv r_1944, rv r_1951, iv s2, .unset, .unset, .unset] [])) t → Steps p.tables e below (s₁.setTop (entryFrame m #[(.int p0), (.int p1), (.int p2), (.int p3)] maxLocals)) t := fun t kt => by
    refine pre1960 _ ?_
    show Steps p.tables e below (T1959.setTop (mkF m 92 #[iv p0, iv p1, iv p2, iv p3, iv (p3 &&& (3 : Int32)), iv ln, rv r_1920, rv r_1923, iv s0, rv r_1930, rv r_1935, iv s1, rv r_1944, rv r_1951, .unset, .unset, .unset, .unset] [(.int s2)])) _
    refine XS.istore X1959.here hx rfl (hb hby at_92) rfl (l' := #[iv p0, iv p1, iv p2, iv p3, iv (p3 &&& (3 : Int32)), iv ln, rv r_1920, rv r_1923, iv s0, rv r_1930, rv r_1935, iv s1, rv r_1944, rv r_1951, iv s2, .unset, .unset, .unset]) rfl ?_
    exact kt
  have XF1962 : Ext h1951 h1951 := ⟨Nat.le_refl _, fun _ _ q => q⟩
  obtain ⟨T1963, h1963, X1963, e1963, E1963, A1963, D1963, -, st1963⟩ := newO X1959 hx hZ hown (W 49 rfl) (W 50 rfl) (W 51 rfl) e1959 (g := (mkF m 94 #[iv p0, iv p1, iv p2, iv p3, iv (p3 &&& (3 : Int32)), iv ln, rv r_1920, rv r_1923, iv s0, rv r_1930, rv r_1935, iv s1, rv r_1944, rv r_1951, iv s2, .unset, .unset, .unset] [])) rfl (hb hby at_94) (by decide) (by decide)
  obtain ⟨b1963, g1963⟩ : ∃ z, z = h1951.size := ⟨_, rfl⟩
  rw [← g1963] at A1963 D1963 st1963
  have pre1964 : ∀ t, Steps p.tables e below (T1963.setTop (mkF m 97 #[iv p0, iv p1, iv p2, iv p3, iv (p3 &&& (3 : Int32)), iv ln, rv r_1920, rv r_1923, iv s0, rv r_1930, rv r_1935, iv s1, rv r_1944, rv r_1951, iv s2, .unset, .unset, .unset] [(.ref b1963)])) t → Steps p.tables e below (s₁.setTop (entryFrame m #[(.int p0), (.int p1), (.int p2), (.int p3)] maxLocals)) t := fun t kt => pre1961 _ (st1963 _ kt)
  have O1963 := O1951.ext E1963
  have K1963 : Keep h0 h1963 [] := K1951.ext E1963
  have XF1965 : Ext h1951 h1963 := own_ext_trans XF1962 E1963
  have g_b1963 : n0 ≤ b1963 := Nat.le_trans (Nat.le_trans (Nat.le_of_eq O1951.1.symm) O1951.2.1) (Nat.le_of_eq g1963.symm)
  have sz_b1963 : h0.size ≤ b1963 := Nat.le_trans K1951.1 (Nat.le_of_eq g1963.symm)
  have zF_b1963 : h1951.size ≤ b1963 := Nat.le_trans XF1962.1 (Nat.le_of_eq g1963.symm)
  have ne_ad_b1963 : ad ≠ b1963 := Nat.ne_of_lt (Nat.lt_of_lt_of_le (G2.ext O1951.2).lt (Nat.le_of_eq g1963.symm))
  have ne_r_1920_b1963 : r_1920 ≠ b1963 := Nat.ne_of_lt (Nat.lt_of_lt_of_le (own_str_lt (own_str_ext F1953 XF1962)) (Nat.le_of_eq g1963.symm))
  have ne_r_1923_b1963 : r_1923 ≠ b1963 := Nat.ne_of_lt (Nat.lt_of_lt_of_le (own_str_lt (own_str_ext F1954 XF1962)) (Nat.le_of_eq g1963.symm))
  have ne_r_1930_b1963 : r_1930 ≠ b1963 := Nat.ne_of_lt (Nat.lt_of_lt_of_le (own_str_lt (own_str_ext F1955 XF1962)) (Nat.le_of_eq g1963.symm))
  have ne_r_1935_b1963 : r_1935 ≠ b1963 := Nat.ne_of_lt (Nat.lt_of_lt_of_le (own_str_lt (own_str_ext F1956 XF1962)) (Nat.le_of_eq g1963.symm))
  have ne_r_1944_b1963 : r_1944 ≠ b1963 := Nat.ne_of_lt (Nat.lt_of_lt_of_le (own_str_lt (own_str_ext F1957 XF1962)) (Nat.le_of_eq g1963.symm))
  have ne_r_1951_b1963 : r_1951 ≠ b1963 := Nat.ne_of_lt (Nat.lt_of_lt_of_le (own_str_lt (own_str_ext J1951_0 XF1962)) (Nat.le_of_eq g1963.symm))
  have F1966 : Exa Z h1963 b1963 "com/example/homethread/homethread/cli/ScenarioReport" := A1963
  have F1967 : Fld Z h1963 b1963 "com/example/homethread/homethread/cli/ScenarioReport" "lines" "Ljava/util/List;" .null := D1963 (Or.inr (W 81 rfl)) (ty := (.object "java/util/List")) (by decide)
  have F1968 : Fld Z h1963 b1963 "com/example/homethread/homethread/cli/ScenarioReport" "differs" "Z" (.int (0 : Int32)) := D1963 (Or.inl (W 88 rfl)) (ty := .boolean) (by decide)
  have pre1969 : ∀ t, Steps p.tables e below (T1963.setTop (mkF m 98 #[iv p0, iv p1, iv p2, iv p3, iv (p3 &&& (3 : Int32)), iv ln, rv r_1920, rv r_1923, iv s0, rv r_1930, rv r_1935, iv s1, rv r_1944, rv r_1951, iv s2, .unset, .unset, .unset] [(.ref b1963), (.ref b1963)])) t → Steps p.tables e below (s₁.setTop (entryFrame m #[(.int p0), (.int p1), (.int p2), (.int p3)] maxLocals)) t := fun t kt => by
    refine pre1964 _ ?_
    show Steps p.tables e below (T1963.setTop (mkF m 97 #[iv p0, iv p1, iv p2, iv p3, iv (p3 &&& (3 : Int32)), iv ln, rv r_1920, rv r_1923, iv s0, rv r_1930, rv r_1935, iv s1, rv r_1944, rv r_1951, iv s2, .unset, .unset, .unset] [(.ref b1963)])) _
    refine XS.dup X1963.here hx rfl (hb hby at_97) rfl rfl ?_
    exact kt
  obtain ⟨_, _, ⟨T1970, L1970, k1970, n1970⟩, -, X1970, ⟨Lc1970, hQ1970, l1970, y1970, z1970⟩, st1970⟩ := X1963.specialBack hx (y := (⟨"com/example/homethread/homethread/cli/ScenarioReport", "<init>", "()V"⟩ : MethodName)) rfl hown (mvT hZ (W 52 rfl)) (mvT hZ (W 53 rfl)) (mvT hZ (W 54 rfl)) (by decide) (backOf (W := 1) (rm_init13_0 l Z a0 hw [] b1963 ad h1963 n0 O1963 G1 g_b1963 F1966 F1967 F1968) hZ (W 54 rfl) (W 51 rfl) (by decide) (by decide)) (g := (mkF m 98 #[iv p0, iv p1, iv p2, iv p3, iv (p3 &&& (3 : Int32)), iv ln, rv r_1920, rv r_1923, iv s0, rv r_1930, rv r_1935, iv s1, rv r_1944, rv r_1951, iv s2, .unset, .unset, .unset] [(.ref b1963), (.ref b1963)])) rfl (by rw [hml]; rfl) (Steps.refl _) (a := b1963) (argsL := []) (rest := [(.ref b1963)]) (lenOf pd_44 rfl) rfl (by show 2 * 0 + _ ≤ _; exact Nat.le_of_eq rfl) (hb hby at_98) (fun _ _ => ⟨rfl, e1963, (by decide : 19 + 1 ≤ _), (by decide : 50 + 3 ≤ _)⟩)
  dsimp only [Pt.U, Pt.locs, Pt.cells, Pt.slots] at X1970 l1970 y1970 z1970 st1970 hQ1970
  replace l1970 := l1970.symm
  replace y1970 : 20 = k1970 := y1970.symm
  replace z1970 : 53 = n1970 := z1970.symm
  subst l1970 y1970 z1970
  obtain ⟨b2137_1970, rfl, M1970, Kc1970, O1970, J1970_0, J1970_1, J1970_2, J1970_3, J1970_4, J1970_5, J1970_6, P1970_0⟩ := hQ1970
  obtain ⟨h1970, e1970⟩ : ∃ z, T1970.heap = z := ⟨_, rfl⟩
  rw [e1970] at Kc1970 O1970 J1970_0 J1970_1 J1970_2 J1970_3 J1970_4 J1970_5 J1970_6
  try rw [e1970] at P1970_0
  have N1970 := Fr.app N1959 M1970
  have K1970 : Keep h0 h1970 [] := K1963.trans Kc1970 (own_all1 (Or.inr sz_b1963))
  have pre2161 : ∀ t, Steps p.tables e below (T1970.setTop (mkF m 101 #[iv p0, iv p1, iv p2, iv p3, iv (p3 &&& (3 : Int32)), iv ln, rv r_1920, rv r_1923, iv s0, rv r_1930, rv r_1935, iv s1, rv r_1944, rv r_1951, iv s2, .unset, .unset, .unset] [(.ref b1963)])) t → Steps p.tables e below (s₁.setTop (entryFrame m #[(.int p0), (.int p1), (.int p2), (.int p3)] maxLocals)) t := fun t kt => pre1969 _ (st1970.trans kt)
  have XF2162 : Ext h1951 h1970 := own_ext_keep XF1965 Kc1970 (own_all1 zF_b1963)
  have sz_b2137_1970 : h0.size ≤ b2137_1970 := Nat.le_trans K1963.1 P1970_0
  have ne_ad_b2137_1970 : ad ≠ b2137_1970 := Nat.ne_of_lt (Nat.lt_of_lt_of_le (G2.ext O1963.2).lt P1970_0)
  have ne_r_1920_b2137_1970 : r_1920 ≠ b2137_1970 := Nat.ne_of_lt (Nat.lt_of_lt_of_le (own_str_lt (own_str_ext F1953 XF1965)) P1970_0)
  have ne_r_1923_b2137_1970 : r_1923 ≠ b2137_1970 := Nat.ne_of_lt (Nat.lt_of_lt_of_le (own_str_lt (own_str_ext F1954 XF1965)) P1970_0)
  have ne_r_1930_b2137_1970 : r_1930 ≠ b2137_1970 := Nat.ne_of_lt (Nat.lt_of_lt_of_le (own_str_lt (own_str_ext F1955 XF1965)) P1970_0)
  have ne_r_1935_b2137_1970 : r_1935 ≠ b2137_1970 := Nat.ne_of_lt (Nat.lt_of_lt_of_le (own_str_lt (own_str_ext F1956 XF1965)) P1970_0)
  have ne_r_1944_b2137_1970 : r_1944 ≠ b2137_1970 := Nat.ne_of_lt (Nat.lt_of_lt_of_le (own_str_lt (own_str_ext F1957 XF1965)) P1970_0)
  have ne_r_1951_b2137_1970 : r_1951 ≠ b2137_1970 := Nat.ne_of_lt (Nat.lt_of_lt_of_le (own_str_lt (own_str_ext J1951_0 XF1965)) P1970_0)
  have ne_b1963_b2137_1970 : b1963 ≠ b2137_1970 := Nat.ne_of_lt (Nat.lt_of_lt_of_le F1966.lt P1970_0)
  have g_b2137_1970 : n0 ≤ b2137_1970 := Nat.le_trans (Nat.le_trans (Nat.le_of_eq O0.1.symm) O0.2.1) sz_b2137_1970
  have zF_b2137_1970 : h1951.size ≤ b2137_1970 := Nat.le_trans XF1965.1 P1970_0
  have pre2163 : ∀ t, Steps p.tables e below (T1970.setTop (mkF m 105 #[iv p0, iv p1, iv p2, iv p3, iv (p3 &&& (3 : Int32)), iv ln, rv r_1920, rv r_1923, iv s0, rv r_1930, rv r_1935, iv s1, rv r_1944, rv r_1951, iv s2, rv b1963, .unset, .unset] [(.ref b1963)])) t → Steps p.tables e below (s₁.setTop (entryFrame m #[(.int p0), (.int p1), (.int p2), (.int p3)] maxLocals)) t := fun t kt => by
    refine pre2161 _ ?_
    show Steps p.tables e below (T1970.setTop (mkF m 101 #[iv p0, iv p1, iv p2, iv p3, iv (p3 &&& (3 : Int32)), iv ln, rv r_1920, rv r_1923, iv s0, rv r_1930, rv r_1935, iv s1, rv r_1944, rv r_1951, iv s2, .unset, .unset, .unset] [(.ref b1963)])) _
    refine XS.astore X1970.here hx rfl (hb hby at_101) rfl rfl (l' := #[iv p0, iv p1, iv p2, iv p3, iv (p3 &&& (3 : Int32)), iv ln, rv r_1920, rv r_1923, iv s0, rv r_1930, rv r_1935, iv s1, rv r_1944, rv r_1951, iv s2, rv b1963, .unset, .unset]) rfl ?_
    refine XS.aload X1970.here hx rfl (hb hby at_103) rfl rfl ?_
    exact kt
  obtain ⟨cq2164, kq2164, q2164a, q2164b, q2164c⟩ := isOf hZ e1970 J1970_0
  obtain ⟨_, _, ⟨T2164, L2164, k2164, n2164⟩, -, X2164, ⟨Lc2164, hQ2164, l2164, y2164, z2164⟩, st2164⟩ := X1970.virtualBack hx (y := (⟨"com/example/homethread/homethread/cli/ScenarioReport", "exitStatus", "()I"⟩ : MethodName)) (z := (⟨"com/example/homethread/homethread/cli/ScenarioReport", "exitStatus", "()I"⟩ : MethodName)) hown (mvT hZ (W 82 rfl)) (mvT hZ (W 83 rfl)) (notFace_of_selects (args := #[]) (mvT hZ (W 85 rfl))) (mvT hZ (W 85 rfl)) (mvT hZ (W 84 rfl)) (by decide) (backOf (W := 0) (rm_exitStatus17_0 l Z a0 hw [] b1963 h1970 n0 O1970 J1970_1) hZ (W 86 rfl) (W 51 rfl) (by decide) (by decide)) q2164a q2164c (g := (mkF m 105 #[iv p0, iv p1, iv p2, iv p3, iv (p3 &&& (3 : Int32)), iv ln, rv r_1920, rv r_1923, iv s0, rv r_1930, rv r_1935, iv s1, rv r_1944, rv r_1951, iv s2, rv b1963, .unset, .unset] [(.ref b1963)])) rfl (by rw [hml]; rfl) (Steps.refl _) (argsL := []) (rest := []) (lenOf pd_50 rfl) rfl (by show 2 * 0 + _ ≤ _; exact Nat.le_of_eq rfl) (hb hby at_105) (fun _ _ => ⟨rfl, e1970, (by decide : 20 + 0 ≤ _), (by decide : 53 + 0 ≤ _)⟩)
  dsimp only [Pt.U, Pt.locs, Pt.cells, Pt.slots] at X2164 l2164 y2164 z2164 st2164 hQ2164
  replace l2164 := l2164.symm
  replace y2164 : 20 = k2164 := y2164.symm
  replace z2164 : 53 = n2164 := z2164.symm
  subst l2164 y2164 z2164
  obtain ⟨rfl, M2164, e2164⟩ := hQ2164
  have N2164 := Fr.app N1970 M2164
  have pre2177 : ∀ t, Steps p.tables e below (T2164.setTop (mkF m 108 #[iv p0, iv p1, iv p2, iv p3, iv (p3 &&& (3 : Int32)), iv ln, rv r_1920, rv r_1923, iv s0, rv r_1930, rv r_1935, iv s1, rv r_1944, rv r_1951, iv s2, rv b1963, .unset, .unset] [(.int (0 : Int32))])) t → Steps p.tables e below (s₁.setTop (entryFrame m #[(.int p0), (.int p1), (.int p2), (.int p3)] maxLocals)) t := fun t kt => pre2163 _ (st2164.trans kt)
  have pre2178 : ∀ t, Steps p.tables e below (T2164.setTop (mkF m 121 #[iv p0, iv p1, iv p2, iv p3, iv (p3 &&& (3 : Int32)), iv ln, rv r_1920, rv r_1923, iv s0, rv r_1930, rv r_1935, iv s1, rv r_1944, rv r_1951, iv s2, rv b1963, iv (1 : Int32), iv (0 : Int32)] [])) t → Steps p.tables e below (s₁.setTop (entryFrame m #[(.int p0), (.int p1), (.int p2), (.int p3)] maxLocals)) t := fun t kt => by
    refine pre2177 _ ?_
    show Steps p.tables e below (T2164.setTop (mkF m 108 #[iv p0, iv p1, iv p2, iv p3, iv (p3 &&& (3 : Int32)), iv ln, rv r_1920, rv r_1923, iv s0, rv r_1930, rv r_1935, iv s1, rv r_1944, rv r_1951, iv s2, rv b1963, .unset, .unset] [(.int (0 : Int32))])) _
    refine XS.ifNo X2164.here hx rfl (hb hby at_108) rfl (XT.i0_ne_f (by decide)) ?_
    refine XS.iconst X2164.here hx rfl (hb hby at_111) ?_
    refine XS.goto X2164.here hx rfl (pc0 := 112) (pc' := 116) rfl (hb hby at_112) (by decide) (by decide) ?_
    refine XS.istore X2164.here hx rfl (hb hby at_116) rfl (l' := #[iv p0, iv p1, iv p2, iv p3, iv (p3 &&& (3 : Int32)), iv ln, rv r_1920, rv r_1923, iv s0, rv r_1930, rv r_1935, iv s1, rv r_1944, rv r_1951, iv s2, rv b1963, iv (1 : Int32), .unset]) rfl ?_
    refine XS.iconst X2164.here hx rfl (hb hby at_118) ?_
    refine XS.istore X2164.here hx rfl (hb hby at_119) rfl (l' := #[iv p0, iv p1, iv p2, iv p3, iv (p3 &&& (3 : Int32)), iv ln, rv r_1920, rv r_1923, iv s0, rv r_1930, rv r_1935, iv s1, rv r_1944, rv r_1951, iv s2, rv b1963, iv (1 : Int32), iv (0 : Int32)]) rfl ?_
    exact kt
  rcases own_mask3 p3 with hv2179 | hv2179 | hv2179 | hv2179
  · rw [hv2179] at pre2178
    have pre2180 : ∀ t, Steps p.tables e below (T2164.setTop (mkF m 299 #[iv p0, iv p1, iv p2, iv p3, iv (0 : Int32), iv ln, rv r_1920, rv r_1923, iv s0, rv r_1930, rv r_1935, iv s1, rv r_1944, rv r_1951, iv s2, rv b1963, iv (1 : Int32), iv (0 : Int32)] [(.ref b1963)])) t → Steps p.tables e below (s₁.setTop (entryFrame m #[(.int p0), (.int p1), (.int p2), (.int p3)] maxLocals)) t := fun t kt => by
      refine pre2178 _ ?_
      show Steps p.tables e below (T2164.setTop (mkF m 121 #[iv p0, iv p1, iv p2, iv p3, iv (0 : Int32), iv ln, rv r_1920, rv r_1923, iv s0, rv r_1930, rv r_1935, iv s1, rv r_1944, rv r_1951, iv s2, rv b1963, iv (1 : Int32), iv (0 : Int32)] [])) _
      refine XS.iload X2164.here hx rfl (hb hby at_121) rfl ?_
      refine XS.iconst X2164.here hx rfl (hb hby at_123) ?_
      refine XS.icmpYes X2164.here hx rfl (pc0 := 124) (pc' := 178) rfl (hb hby at_124) rfl (XT.ii_lt_t (by decide)) (by decide) (by decide) ?_
      refine XS.iload X2164.here hx rfl (hb hby at_178) rfl ?_
      refine XS.iconst X2164.here hx rfl (hb hby at_180) ?_
      refine XS.icmpYes X2164.here hx rfl (pc0 := 181) (pc' := 235) rfl (hb hby at_181) rfl (XT.ii_lt_t (by decide)) (by decide) (by decide) ?_
      refine XS.iload X2164.here hx rfl (hb hby at_235) rfl ?_
      refine XS.iconst X2164.here hx rfl (hb hby at_237) ?_
      show Steps p.tables e below (T2164.setTop (mkF m 238 #[iv p0, iv p1, iv p2, iv p3, iv (0 : Int32), iv ln, rv r_1920, rv r_1923, iv s0, rv r_1930, rv r_1935, iv s1, rv r_1944, rv r_1951, iv s2, rv b1963, iv (1 : Int32), iv (0 : Int32)] [(.int (3 : Int32)), (.int (0 : Int32))])) _
      refine XS.icmpYes X2164.here hx rfl (pc0 := 238) (pc' := 292) rfl (hb hby at_238) rfl (XT.ii_lt_t (by decide)) (by decide) (by decide) ?_
      refine XS.iload X2164.here hx rfl (hb hby at_292) rfl ?_
      refine XS.ifNo X2164.here hx rfl (hb hby at_294) rfl (XT.i0_eq_f (by decide)) ?_
      refine XS.aload X2164.here hx rfl (hb hby at_297) rfl rfl ?_
      exact kt
    obtain ⟨cq2181, kq2181, q2181a, q2181b, q2181c⟩ := isOf hZ e2164 J1970_0
    obtain ⟨_, _, ⟨T2181, L2181, k2181, n2181⟩, -, X2181, ⟨Lc2181, hQ2181, l2181, y2181, z2181⟩, st2181⟩ := X2164.virtualBack hx (y := (⟨"com/example/homethread/homethread/cli/ScenarioReport", "exitStatus", "()I"⟩ : MethodName)) (z := (⟨"com/example/homethread/homethread/cli/ScenarioReport", "exitStatus", "()I"⟩ : MethodName)) hown (mvT hZ (W 82 rfl)) (mvT hZ (W 83 rfl)) (notFace_of_selects (args := #[]) (mvT hZ (W 85 rfl))) (mvT hZ (W 85 rfl)) (mvT hZ (W 84 rfl)) (by decide) (backOf (W := 0) (rm_exitStatus17_0 l Z a0 hw [] b1963 h1970 n0 O1970 J1970_1) hZ (W 86 rfl) (W 51 rfl) (by decide) (by decide)) q2181a q2181c (g := (mkF m 299 #[iv p0, iv p1, iv p2, iv p3, iv (0 : Int32), iv ln, rv r_1920, rv r_1923, iv s0, rv r_1930, rv r_1935, iv s1, rv r_1944, rv r_1951, iv s2, rv b1963, iv (1 : Int32), iv (0 : Int32)] [(.ref b1963)])) rfl (by rw [hml]; rfl) (Steps.refl _) (argsL := []) (rest := []) (lenOf pd_50 rfl) rfl (by show 2 * 0 + _ ≤ _; exact Nat.le_of_eq rfl) (hb hby at_299) (fun _ _ => ⟨rfl, e2164, (by decide : 20 + 0 ≤ _), (by decide : 53 + 0 ≤ _)⟩)
    dsimp only [Pt.U, Pt.locs, Pt.cells, Pt.slots] at X2181 l2181 y2181 z2181 st2181 hQ2181
    replace l2181 := l2181.symm
    replace y2181 : 20 = k2181 := y2181.symm
    replace z2181 : 53 = n2181 := z2181.symm
    subst l2181 y2181 z2181
    obtain ⟨rfl, M2181, e2181⟩ := hQ2181
    have N2181 := Fr.app N2164 M2181
    have pre2182 : ∀ t, Steps p.tables e below (T2181.setTop (mkF m 302 #[iv p0, iv p1, iv p2, iv p3, iv (0 : Int32), iv ln, rv r_1920, rv r_1923, iv s0, rv r_1930, rv r_1935, iv s1, rv r_1944, rv r_1951, iv s2, rv b1963, iv (1 : Int32), iv (0 : Int32)] [(.int (0 : Int32))])) t → Steps p.tables e below (s₁.setTop (entryFrame m #[(.int p0), (.int p1), (.int p2), (.int p3)] maxLocals)) t := fun t kt => pre2180 _ (st2181.trans kt)
    have pre2183 : ∀ t, Steps p.tables e below (T2181.setTop (mkF m 304 #[iv p0, iv p1, iv p2, iv p3, iv (0 : Int32), iv ln, rv r_1920, rv r_1923, iv s0, rv r_1930, rv r_1935, iv s1, rv r_1944, rv r_1951, iv s2, rv b1963, iv (1 : Int32), iv (0 : Int32)] [(.int (0 : Int32)), (.int (0 : Int32))])) t → Steps p.tables e below (s₁.setTop (entryFrame m #[(.int p0), (.int p1), (.int p2), (.int p3)] maxLocals)) t := fun t kt => by
      refine pre2182 _ ?_
      show Steps p.tables e below (T2181.setTop (mkF m 302 #[iv p0, iv p1, iv p2, iv p3, iv (0 : Int32), iv ln, rv r_1920, rv r_1923, iv s0, rv r_1930, rv r_1935, iv s1, rv r_1944, rv r_1951, iv s2, rv b1963, iv (1 : Int32), iv (0 : Int32)] [(.int (0 : Int32))])) _
      refine XS.iload X2181.here hx rfl (hb hby at_302) rfl ?_
      exact kt
    obtain ⟨_, _, ⟨T2184, L2184, k2184, n2184⟩, -, X2184, ⟨Lc2184, hQ2184, l2184, y2184, z2184⟩, st2184⟩ := Jvm.LawKit.callS X2181 hx (y := (⟨"com/example/homethread/homethread/cli/ScenarioReportExitStatusPinLaw", "want", "(Z)I"⟩ : MethodName)) hown (mvT hZ (W 139 rfl)) (mvT hZ (W 140 rfl)) (mvT hZ (W 2 rfl)) (mvT hZ (W 141 rfl)) (by decide) (backOf (W := 1) (rm_want26_0 l Z a0 hw [] h1970 n0 O1970) hZ (W 141 rfl) (W 2 rfl) (by decide) (by decide)) (g := (mkF m 304 #[iv p0, iv p1, iv p2, iv p3, iv (0 : Int32), iv ln, rv r_1920, rv r_1923, iv s0, rv r_1930, rv r_1935, iv s1, rv r_1944, rv r_1951, iv s2, rv b1963, iv (1 : Int32), iv (0 : Int32)] [(.int (0 : Int32)), (.int (0 : Int32))])) rfl (by rw [hml]; rfl) (argsL := [(.int (0 : Int32))]) (rest := [(.int (0 : Int32))]) (lenOf pd_52 rfl) rfl (by show 2 * 0 + _ ≤ _; exact Nat.le_of_eq rfl) (hb hby at_304) (fun _ _ => ⟨rfl, e2181, (by decide : 20 + 0 ≤ _), (by decide : 53 + 0 ≤ _)⟩)
    dsimp only [Pt.U, Pt.locs, Pt.cells, Pt.slots] at X2184 l2184 y2184 z2184 st2184 hQ2184
    replace l2184 := l2184.symm
    replace y2184 : 20 = k2184 := y2184.symm
    replace z2184 : 53 = n2184 := z2184.symm
    subst l2184 y2184 z2184
    obtain ⟨rfl, M2184, e2184⟩ := hQ2184
    have N2184 := Fr.app N2181 M2184
    have pre2188 : ∀ t, Steps p.tables e below (T2184.setTop (mkF m 307 #[iv p0, iv p1, iv p2, iv p3, iv (0 : Int32), iv ln, rv r_1920, rv r_1923, iv s0, rv r_1930, rv r_1935, iv s1, rv r_1944, rv r_1951, iv s2, rv b1963, iv (1 : Int32), iv (0 : Int32)] [(.int (0 : Int32)), (.int (0 : Int32))])) t → Steps p.tables e below (s₁.setTop (entryFrame m #[(.int p0), (.int p1), (.int p2), (.int p3)] maxLocals)) t := fun t kt => pre2183 _ (st2184 _ kt)
    have pre2189 : ∀ t, Steps p.tables e below (T2184.setTop (mkF m 319 #[iv p0, iv p1, iv p2, iv p3, iv (0 : Int32), iv ln, rv r_1920, rv r_1923, iv s0, rv r_1930, rv r_1935, iv s1, rv r_1944, rv r_1951, iv s2, rv b1963, iv (1 : Int32), iv (0 : Int32)] [(.int (1 : Int32))])) t → Steps p.tables e below (s₁.setTop (entryFrame m #[(.int p0), (.int p1), (.int p2), (.int p3)] maxLocals)) t := fun t kt => by
      refine pre2188 _ ?_
      show Steps p.tables e below (T2184.setTop (mkF m 307 #[iv p0, iv p1, iv p2, iv p3, iv (0 : Int32), iv ln, rv r_1920, rv r_1923, iv s0, rv r_1930, rv r_1935, iv s1, rv r_1944, rv r_1951, iv s2, rv b1963, iv (1 : Int32), iv (0 : Int32)] [(.int (0 : Int32)), (.int (0 : Int32))])) _
      refine XS.icmpNo X2184.here hx rfl (hb hby at_307) rfl (XT.ii_ne_f (by decide)) ?_
      refine XS.iconst X2184.here hx rfl (hb hby at_310) ?_
      refine XS.goto X2184.here hx rfl (pc0 := 311) (pc' := 315) rfl (hb hby at_311) (by decide) (by decide) ?_
      refine XS.istore X2184.here hx rfl (hb hby at_315) rfl (l' := #[iv p0, iv p1, iv p2, iv p3, iv (0 : Int32), iv ln, rv r_1920, rv r_1923, iv s0, rv r_1930, rv r_1935, iv s1, rv r_1944, rv r_1951, iv s2, rv b1963, iv (1 : Int32), iv (0 : Int32)]) rfl ?_
      refine XS.iload X2184.here hx rfl (hb hby at_317) rfl ?_
      exact kt
    obtain ⟨fs, hr, hrun, hended, hW, hsame⟩ := X2184.leave (v := some (.int (1 : Int32))) (fun h => by rw [Bd.returns] at h; cases h)
    refine ⟨_, _, pre2189 _ (retN X2184 hx (t := .boolean) Bd.returns (by simp) (hb hby at_319) hr), hrun, hended, _, _, rfl, ?_, ⟨_, rfl⟩, hW, hsame.mono (by decide) (by decide)⟩
    show Q_law Z p0 p1 p2 p3 cz ad kd h0 n0 _ T2184.heap _
    rw [e2184]
    exact ⟨rfl, N2184⟩
  · rw [hv2179] at pre2178
    have pre2190 : ∀ t, Steps p.tables e below (T2164.setTop (mkF m 133 #[iv p0, iv p1, iv p2, iv p3, iv (1 : Int32), iv ln, rv r_1920, rv r_1923, iv s0, rv r_1930, rv r_1935, iv s1, rv r_1944, rv r_1951, iv s2, rv b1963, iv (1 : Int32), iv (0 : Int32)] [(.ref r_1923), (.ref r_1920), (.ref b1963)])) t → Steps p.tables e below (s₁.setTop (entryFrame m #[(.int p0), (.int p1), (.int p2), (.int p3)] maxLocals)) t := fun t kt => by
      refine pre2178 _ ?_
      show Steps p.tables e below (T2164.setTop (mkF m 121 #[iv p0, iv p1, iv p2, iv p3, iv (1 : Int32), iv ln, rv r_1920, rv r_1923, iv s0, rv r_1930, rv r_1935, iv s1, rv r_1944, rv r_1951, iv s2, rv b1963, iv (1 : Int32), iv (0 : Int32)] [])) _
      refine XS.iload X2164.here hx rfl (hb hby at_121) rfl ?_
      refine XS.iconst X2164.here hx rfl (hb hby at_123) ?_
      refine XS.icmpNo X2164.here hx rfl (hb hby at_124) rfl (XT.ii_lt_f (by decide)) ?_
      refine XS.aload X2164.here hx rfl (hb hby at_127) rfl rfl ?_
      refine XS.aload X2164.here hx rfl (hb hby at_129) rfl rfl ?_
      refine XS.aload X2164.here hx rfl (hb hby at_131) rfl rfl ?_
      exact kt
    obtain ⟨cq2191, kq2191, q2191a, q2191b, q2191c⟩ := isOf hZ e2164 J1970_0
    obtain ⟨_, _, ⟨T2191, L2191, k2191, n2191⟩, -, X2191, ⟨Lc2191, hQ2191, l2191, y2191, z2191⟩, st2191⟩ := X2164.virtualBack hx (y := (⟨"com/example/homethread/homethread/cli/ScenarioReport", "expectLine", "(Ljava/lang/String;Ljava/lang/String;)V"⟩ : MethodName)) (z := (⟨"com/example/homethread/homethread/cli/ScenarioReport", "expectLine", "(Ljava/lang/String;Ljava/lang/String;)V"⟩ : MethodName)) hown (mvT hZ (W 89 rfl)) (mvT hZ (W 90 rfl)) (notFace_of_selects (args := #[]) (mvT hZ (W 92 rfl))) (mvT hZ (W 92 rfl)) (mvT hZ (W 91 rfl)) (by decide) (backOf (W := 0) (rm_line0 l Z a0 hw [] b1963 r_1920 r_1923 cz ad kd b2137_1970 ((0 : Int32)) ((0 : Int32)) ((ln &&& (2 : Int32))) ((own_b ((p0 &&& (255 : Int32)) ^^^ (own_x0 p0)))) ((own_b ((((p0.toUInt32 >>> ((8 : Int32) &&& 31).toUInt32).toInt32) &&& (255 : Int32)) ^^^ (own_x1 p0)))) ((ln &&& (1 : Int32))) ((own_b (p0 &&& (255 : Int32)))) ((own_b (((p0.toUInt32 >>> ((8 : Int32) &&& 31).toUInt32).toInt32) &&& (255 : Int32)))) h1970 n0 O1970 G0 G1 G2 G3 g_b1963 g_b2137_1970 J1970_0 J1970_6 J1970_1 J1970_2 J1970_4 J1970_5 J1970_3 qz (fun q => ne_r_1920_r_1923 q.symm) (Or.inl rfl) ne_b1963_b2137_1970 h1951 XF2162 F1954 F1953 zF_b1963 zF_b2137_1970) hZ (W 93 rfl) (W 51 rfl) (by decide) (by decide)) q2191a q2191c (g := (mkF m 133 #[iv p0, iv p1, iv p2, iv p3, iv (1 : Int32), iv ln, rv r_1920, rv r_1923, iv s0, rv r_1930, rv r_1935, iv s1, rv r_1944, rv r_1951, iv s2, rv b1963, iv (1 : Int32), iv (0 : Int32)] [(.ref r_1923), (.ref r_1920), (.ref b1963)])) rfl (by rw [hml]; rfl) (Steps.refl _) (argsL := [(.ref r_1920), (.ref r_1923)]) (rest := []) (lenOf pd_53 rfl) rfl (by show 2 * 0 + _ ≤ _; exact Nat.le_of_eq rfl) (hb hby at_133) (fun _ _ => ⟨rfl, e2164, (by decide : 20 + 1 ≤ _), (by decide : 53 + 10 ≤ _)⟩)
    dsimp only [Pt.U, Pt.locs, Pt.cells, Pt.slots] at X2191 l2191 y2191 z2191 st2191 hQ2191
    replace l2191 := l2191.symm
    replace y2191 : 21 = k2191 := y2191.symm
    replace z2191 : 63 = n2191 := z2191.symm
    subst l2191 y2191 z2191
    obtain ⟨na_2191, kna_2191, rfl, M2191, Kc2191, O2191, J2191_0, J2191_1, J2191_2, J2191_3, J2191_4, J2191_5, J2191_6, J2191_7, J2191_8, J2191_9, P2191_0⟩ := hQ2191
    obtain ⟨h2191, e2191⟩ : ∃ z, T2191.heap = z := ⟨_, rfl⟩
    rw [e2191] at Kc2191 O2191 J2191_0 J2191_1 J2191_2 J2191_3 J2191_4 J2191_5 J2191_6 J2191_7 J2191_8
    try rw [e2191] at P2191_0
    have N2191 := Fr.app N2164 M2191
    have K2191 : Keep h0 h2191 [] := K1970.trans Kc2191 (own_all2 (Or.inr sz_b1963) (Or.inr sz_b2137_1970))
    have pre2192 : ∀ t, Steps p.tables e below (T2191.setTop (mkF m 136 #[iv p0, iv p1, iv p2, iv p3, iv (1 : Int32), iv ln, rv r_1920, rv r_1923, iv s0, rv r_1930, rv r_1935, iv s1, rv r_1944, rv r_1951, iv s2, rv b1963, iv (1 : Int32), iv (0 : Int32)] [])) t → Steps p.tables e below (s₁.setTop (entryFrame m #[(.int p0), (.int p1), (.int p2), (.int p3)] maxLocals)) t := fun t kt => pre2190 _ (st2191.trans kt)
    have XF2193 : Ext h1951 h2191 := own_ext_keep XF2162 Kc2191 (own_all2 zF_b1963 zF_b2137_1970)
    have sz_na_2191 : h0.size ≤ na_2191 := Nat.le_trans K1970.1 P2191_0
    have ne_ad_na_2191 : ad ≠ na_2191 := Nat.ne_of_lt (Nat.lt_of_lt_of_le (G2.ext O1970.2).lt P2191_0)
    have ne_r_1920_na_2191 : r_1920 ≠ na_2191 := Nat.ne_of_lt (Nat.lt_of_lt_of_le (own_str_lt (own_str_ext F1953 XF2162)) P2191_0)
    have ne_r_1923_na_2191 : r_1923 ≠ na_2191 := Nat.ne_of_lt (Nat.lt_of_lt_of_le (own_str_lt (own_str_ext F1954 XF2162)) P2191_0)
    have ne_r_1930_na_2191 : r_1930 ≠ na_2191 := Nat.ne_of_lt (Nat.lt_of_lt_of_le (own_str_lt (own_str_ext F1955 XF2162)) P2191_0)
    have ne_r_1935_na_2191 : r_1935 ≠ na_2191 := Nat.ne_of_lt (Nat.lt_of_lt_of_le (own_str_lt (own_str_ext F1956 XF2162)) P2191_0)
    have ne_r_1944_na_2191 : r_1944 ≠ na_2191 := Nat.ne_of_lt (Nat.lt_of_lt_of_le (own_str_lt (own_str_ext F1957 XF2162)) P2191_0)
    have ne_r_1951_na_2191 : r_1951 ≠ na_2191 := Nat.ne_of_lt (Nat.lt_of_lt_of_le (own_str_lt (own_str_ext J1951_0 XF2162)) P2191_0)
    have ne_b1963_na_2191 : b1963 ≠ na_2191 := Nat.ne_of_lt (Nat.lt_of_lt_of_le J1970_0.lt P2191_0)
    have ne_b2137_1970_na_2191 : b2137_1970 ≠ na_2191 := Nat.ne_of_lt (Nat.lt_of_lt_of_le J1970_2.lt P2191_0)
    have g_na_2191 : n0 ≤ na_2191 := Nat.le_trans (Nat.le_trans (Nat.le_of_eq O0.1.symm) O0.2.1) sz_na_2191
    have zF_na_2191 : h1951.size ≤ na_2191 := Nat.le_trans XF2162.1 P2191_0
    rcases own_sync p0 ln with ⟨hs2194a, hs2194b⟩ | ⟨hs2194a, hs2194b⟩
    · rw [← hs0] at hs2194a
      have F2195 : Fld Z h2191 b1963 "com/example/homethread/homethread/cli/ScenarioReport" "differs" "Z" (.int (1 : Int32)) := own_fldcast J2191_2 (own_dif0 hs2194b)
      have pre2196 : ∀ t, Steps p.tables e below (T2191.setTop (mkF m 160 #[iv p0, iv p1, iv p2, iv p3, iv (1 : Int32), iv ln, rv r_1920, rv r_1923, iv s0, rv r_1930, rv r_1935, iv s1, rv r_1944, rv r_1951, iv s2, rv b1963, iv (1 : Int32), iv (1 : Int32)] [(.ref b1963)])) t → Steps p.tables e below (s₁.setTop (entryFrame m #[(.int p0), (.int p1), (.int p2), (.int p3)] maxLocals)) t := fun t kt => by
        refine pre2192 _ ?_
        show Steps p.tables e below (T2191.setTop (mkF m 136 #[iv p0, iv p1, iv p2, iv p3, iv (1 : Int32), iv ln, rv r_1920, rv r_1923, iv s0, rv r_1930, rv r_1935, iv s1, rv r_1944, rv r_1951, iv s2, rv b1963, iv (1 : Int32), iv (0 : Int32)] [])) _
        refine XS.iload X2191.here hx rfl (hb hby at_136) rfl ?_
        refine XS.ifNo X2191.here hx rfl (hb hby at_138) rfl (XT.i0_ne_f (by decide)) ?_
        refine XS.iload X2191.here hx rfl (hb hby at_141) rfl ?_
        refine XS.ifNo X2191.here hx rfl (hb hby at_143) rfl (XT.i0_ne_f hs2194a) ?_
        refine XS.iconst X2191.here hx rfl (hb hby at_146) ?_
        refine XS.goto X2191.here hx rfl (pc0 := 147) (pc' := 151) rfl (hb hby at_147) (by decide) (by decide) ?_
        refine XS.istore X2191.here hx rfl (hb hby at_151) rfl (l' := #[iv p0, iv p1, iv p2, iv p3, iv (1 : Int32), iv ln, rv r_1920, rv r_1923, iv s0, rv r_1930, rv r_1935, iv s1, rv r_1944, rv r_1951, iv s2, rv b1963, iv (1 : Int32), iv (1 : Int32)]) rfl ?_
        refine XS.iload X2191.here hx rfl (hb hby at_153) rfl ?_
        show Steps p.tables e below (T2191.setTop (mkF m 155 #[iv p0, iv p1, iv p2, iv p3, iv (1 : Int32), iv ln, rv r_1920, rv r_1923, iv s0, rv r_1930, rv r_1935, iv s1, rv r_1944, rv r_1951, iv s2, rv b1963, iv (1 : Int32), iv (1 : Int32)] [(.int (1 : Int32))])) _
        refine XS.ifNo X2191.here hx rfl (hb hby at_155) rfl (XT.i0_eq_f (by decide)) ?_
        refine XS.aload X2191.here hx rfl (hb hby at_158) rfl rfl ?_
        exact kt
      obtain ⟨cq2197, kq2197, q2197a, q2197b, q2197c⟩ := isOf hZ e2191 J2191_0
      obtain ⟨_, _, ⟨T2197, L2197, k2197, n2197⟩, -, X2197, ⟨Lc2197, hQ2197, l2197, y2197, z2197⟩, st2197⟩ := X2191.virtualBack hx (y := (⟨"com/example/homethread/homethread/cli/ScenarioReport", "exitStatus", "()I"⟩ : MethodName)) (z := (⟨"com/example/homethread/homethread/cli/ScenarioReport", "exitStatus", "()I"⟩ : MethodName)) hown (mvT hZ (W 82 rfl)) (mvT hZ (W 83 rfl)) (notFace_of_selects (args := #[]) (mvT hZ (W 85 rfl))) (mvT hZ (W 85 rfl)) (mvT hZ (W 84 rfl)) (by decide) (backOf (W := 0) (rm_exitStatus17_1 l Z a0 hw [] b1963 h2191 n0 O2191 F2195) hZ (W 86 rfl) (W 51 rfl) (by decide) (by decide)) q2197a q2197c (g := (mkF m 160 #[iv p0, iv p1, iv p2, iv p3, iv (1 : Int32), iv ln, rv r_1920, rv r_1923, iv s0, rv r_1930, rv r_1935, iv s1, rv r_1944, rv r_1951, iv s2, rv b1963, iv (1 : Int32), iv (1 : Int32)] [(.ref b1963)])) rfl (by rw [hml]; rfl) (Steps.refl _) (argsL := []) (rest := []) (lenOf pd_50 rfl) rfl (by show 2 * 0 + _ ≤ _; exact Nat.le_of_eq rfl) (hb hby at_160) (fun _ _ => ⟨rfl, e2191, (by decide : 21 + 0 ≤ _), (by decide : 63 + 0 ≤ _)⟩)
      dsimp only [Pt.U, Pt.locs, Pt.cells, Pt.slots] at X2197 l2197 y2197 z2197 st2197 hQ2197
      replace l2197 := l2197.symm
      replace y2197 : 21 = k2197 := y2197.symm
      replace z2197 : 63 = n2197 := z2197.symm
      subst l2197 y2197 z2197
      obtain ⟨rfl, M2197, e2197⟩ := hQ2197
      have N2197 := Fr.app N2191 M2197
      have pre2210 : ∀ t, Steps p.tables e below (T2197.setTop (mkF m 163 #[iv p0, iv p1, iv p2, iv p3, iv (1 : Int32), iv ln, rv r_1920, rv r_1923, iv s0, rv r_1930, rv r_1935, iv s1, rv r_1944, rv r_1951, iv s2, rv b1963, iv (1 : Int32), iv (1 : Int32)] [(.int (1 : Int32))])) t → Steps p.tables e below (s₁.setTop (entryFrame m #[(.int p0), (.int p1), (.int p2), (.int p3)] maxLocals)) t := fun t kt => pre2196 _ (st2197.trans kt)
      have pre2211 : ∀ t, Steps p.tables e below (T2197.setTop (mkF m 165 #[iv p0, iv p1, iv p2, iv p3, iv (1 : Int32), iv ln, rv r_1920, rv r_1923, iv s0, rv r_1930, rv r_1935, iv s1, rv r_1944, rv r_1951, iv s2, rv b1963, iv (1 : Int32), iv (1 : Int32)] [(.int (1 : Int32)), (.int (1 : Int32))])) t → Steps p.tables e below (s₁.setTop (entryFrame m #[(.int p0), (.int p1), (.int p2), (.int p3)] maxLocals)) t := fun t kt => by
        refine pre2210 _ ?_
        show Steps p.tables e below (T2197.setTop (mkF m 163 #[iv p0, iv p1, iv p2, iv p3, iv (1 : Int32), iv ln, rv r_1920, rv r_1923, iv s0, rv r_1930, rv r_1935, iv s1, rv r_1944, rv r_1951, iv s2, rv b1963, iv (1 : Int32), iv (1 : Int32)] [(.int (1 : Int32))])) _
        refine XS.iload X2197.here hx rfl (hb hby at_163) rfl ?_
        exact kt
      obtain ⟨_, _, ⟨T2212, L2212, k2212, n2212⟩, -, X2212, ⟨Lc2212, hQ2212, l2212, y2212, z2212⟩, st2212⟩ := Jvm.LawKit.callS X2197 hx (y := (⟨"com/example/homethread/homethread/cli/ScenarioReportExitStatusPinLaw", "want", "(Z)I"⟩ : MethodName)) hown (mvT hZ (W 139 rfl)) (mvT hZ (W 140 rfl)) (mvT hZ (W 2 rfl)) (mvT hZ (W 141 rfl)) (by decide) (backOf (W := 1) (rm_want26_1 l Z a0 hw [] h2191 n0 O2191) hZ (W 141 rfl) (W 2 rfl) (by decide) (by decide)) (g := (mkF m 165 #[iv p0, iv p1, iv p2, iv p3, iv (1 : Int32), iv ln, rv r_1920, rv r_1923, iv s0, rv r_1930, rv r_1935, iv s1, rv r_1944, rv r_1951, iv s2, rv b1963, iv (1 : Int32), iv (1 : Int32)] [(.int (1 : Int32)), (.int (1 : Int32))])) rfl (by rw [hml]; rfl) (argsL := [(.int (1 : Int32))]) (rest := [(.int (1 : Int32))]) (lenOf pd_52 rfl) rfl (by show 2 * 0 + _ ≤ _; exact Nat.le_of_eq rfl) (hb hby at_165) (fun _ _ => ⟨rfl, e2197, (by decide : 21 + 0 ≤ _), (by decide : 63 + 0 ≤ _)⟩)
      dsimp only [Pt.U, Pt.locs, Pt.cells, Pt.slots] at X2212 l2212 y2212 z2212 st2212 hQ2212
      replace l2212 := l2212.symm
      replace y2212 : 21 = k2212 := y2212.symm
      replace z2212 : 63 = n2212 := z2212.symm
      subst l2212 y2212 z2212
      obtain ⟨rfl, M2212, e2212⟩ := hQ2212
      have N2212 := Fr.app N2197 M2212
      have pre2216 : ∀ t, Steps p.tables e below (T2212.setTop (mkF m 168 #[iv p0, iv p1, iv p2, iv p3, iv (1 : Int32), iv ln, rv r_1920, rv r_1923, iv s0, rv r_1930, rv r_1935, iv s1, rv r_1944, rv r_1951, iv s2, rv b1963, iv (1 : Int32), iv (1 : Int32)] [(.int (1 : Int32)), (.int (1 : Int32))])) t → Steps p.tables e below (s₁.setTop (entryFrame m #[(.int p0), (.int p1), (.int p2), (.int p3)] maxLocals)) t := fun t kt => pre2211 _ (st2212 _ kt)
      have pre2217 : ∀ t, Steps p.tables e below (T2212.setTop (mkF m 299 #[iv p0, iv p1, iv p2, iv p3, iv (1 : Int32), iv ln, rv r_1920, rv r_1923, iv s0, rv r_1930, rv r_1935, iv s1, rv r_1944, rv r_1951, iv s2, rv b1963, iv (1 : Int32), iv (1 : Int32)] [(.ref b1963)])) t → Steps p.tables e below (s₁.setTop (entryFrame m #[(.int p0), (.int p1), (.int p2), (.int p3)] maxLocals)) t := fun t kt => by
        refine pre2216 _ ?_
        show Steps p.tables e below (T2212.setTop (mkF m 168 #[iv p0, iv p1, iv p2, iv p3, iv (1 : Int32), iv ln, rv r_1920, rv r_1923, iv s0, rv r_1930, rv r_1935, iv s1, rv r_1944, rv r_1951, iv s2, rv b1963, iv (1 : Int32), iv (1 : Int32)] [(.int (1 : Int32)), (.int (1 : Int32))])) _
        refine XS.icmpNo X2212.here hx rfl (hb hby at_168) rfl (XT.ii_ne_f (by decide)) ?_
        refine XS.iconst X2212.here hx rfl (hb hby at_171) ?_
        refine XS.goto X2212.here hx rfl (pc0 := 172) (pc' := 176) rfl (hb hby at_172) (by decide) (by decide) ?_
        refine XS.istore X2212.here hx rfl (hb hby at_176) rfl (l' := #[iv p0, iv p1, iv p2, iv p3, iv (1 : Int32), iv ln, rv r_1920, rv r_1923, iv s0, rv r_1930, rv r_1935, iv s1, rv r_1944, rv r_1951, iv s2, rv b1963, iv (1 : Int32), iv (1 : Int32)]) rfl ?_
        refine XS.iload X2212.here hx rfl (hb hby at_178) rfl ?_
        refine XS.iconst X2212.here hx rfl (hb hby at_180) ?_
        refine XS.icmpYes X2212.here hx rfl (pc0 := 181) (pc' := 235) rfl (hb hby at_181) rfl (XT.ii_lt_t (by decide)) (by decide) (by decide) ?_
        refine XS.iload X2212.here hx rfl (hb hby at_235) rfl ?_
        show Steps p.tables e below (T2212.setTop (mkF m 237 #[iv p0, iv p1, iv p2, iv p3, iv (1 : Int32), iv ln, rv r_1920, rv r_1923, iv s0, rv r_1930, rv r_1935, iv s1, rv r_1944, rv r_1951, iv s2, rv b1963, iv (1 : Int32), iv (1 : Int32)] [(.int (1 : Int32))])) _
        refine XS.iconst X2212.here hx rfl (hb hby at_237) ?_
        refine XS.icmpYes X2212.here hx rfl (pc0 := 238) (pc' := 292) rfl (hb hby at_238) rfl (XT.ii_lt_t (by decide)) (by decide) (by decide) ?_
        refine XS.iload X2212.here hx rfl (hb hby at_292) rfl ?_
        refine XS.ifNo X2212.here hx rfl (hb hby at_294) rfl (XT.i0_eq_f (by decide)) ?_
        refine XS.aload X2212.here hx rfl (hb hby at_297) rfl rfl ?_
        exact kt
      obtain ⟨cq2218, kq2218, q2218a, q2218b, q2218c⟩ := isOf hZ e2212 J2191_0
      obtain ⟨_, _, ⟨T2218, L2218, k2218, n2218⟩, -, X2218, ⟨Lc2218, hQ2218, l2218, y2218, z2218⟩, st2218⟩ := X2212.virtualBack hx (y := (⟨"com/example/homethread/homethread/cli/ScenarioReport", "exitStatus", "()I"⟩ : MethodName)) (z := (⟨"com/example/homethread/homethread/cli/ScenarioReport", "exitStatus", "()I"⟩ : MethodName)) hown (mvT hZ (W 82 rfl)) (mvT hZ (W 83 rfl)) (notFace_of_selects (args := #[]) (mvT hZ (W 85 rfl))) (mvT hZ (W 85 rfl)) (mvT hZ (W 84 rfl)) (by decide) (backOf (W := 0) (rm_exitStatus17_1 l Z a0 hw [] b1963 h2191 n0 O2191 F2195) hZ (W 86 rfl) (W 51 rfl) (by decide) (by decide)) q2218a q2218c (g := (mkF m 299 #[iv p0, iv p1, iv p2, iv p3, iv (1 : Int32), iv ln, rv r_1920, rv r_1923, iv s0, rv r_1930, rv r_1935, iv s1, rv r_1944, rv r_1951, iv s2, rv b1963, iv (1 : Int32), iv (1 : Int32)] [(.ref b1963)])) rfl (by rw [hml]; rfl) (Steps.refl _) (argsL := []) (rest := []) (lenOf pd_50 rfl) rfl (by show 2 * 0 + _ ≤ _; exact Nat.le_of_eq rfl) (hb hby at_299) (fun _ _ => ⟨rfl, e2212, (by decide : 21 + 0 ≤ _), (by decide : 63 + 0 ≤ _)⟩)
      dsimp only [Pt.U, Pt.locs, Pt.cells, Pt.slots] at X2218 l2218 y2218 z2218 st2218 hQ2218
      replace l2218 := l2218.symm
      replace y2218 : 21 = k2218 := y2218.symm
      replace z2218 : 63 = n2218 := z2218.symm
      subst l2218 y2218 z2218
      obtain ⟨rfl, M2218, e2218⟩ := hQ2218
      have N2218 := Fr.app N2212 M2218
      have pre2219 : ∀ t, Steps p.tables e below (T2218.setTop (mkF m 302 #[iv p0, iv p1, iv p2, iv p3, iv (1 : Int32), iv ln, rv r_1920, rv r_1923, iv s0, rv r_1930, rv r_1935, iv s1, rv r_1944, rv r_1951, iv s2, rv b1963, iv (1 : Int32), iv (1 : Int32)] [(.int (1 : Int32))])) t → Steps p.tables e below (s₁.setTop (entryFrame m #[(.int p0), (.int p1), (.int p2), (.int p3)] maxLocals)) t := fun t kt => pre2217 _ (st2218.trans kt)
      have pre2220 : ∀ t, Steps p.tables e below (T2218.setTop (mkF m 304 #[iv p0, iv p1, iv p2, iv p3, iv (1 : Int32), iv ln, rv r_1920, rv r_1923, iv s0, rv r_1930, rv r_1935, iv s1, rv r_1944, rv r_1951, iv s2, rv b1963, iv (1 : Int32), iv (1 : Int32)] [(.int (1 : Int32)), (.int (1 : Int32))])) t → Steps p.tables e below (s₁.setTop (entryFrame m #[(.int p0), (.int p1), (.int p2), (.int p3)] maxLocals)) t := fun t kt => by
        refine pre2219 _ ?_
        show Steps p.tables e below (T2218.setTop (mkF m 302 #[iv p0, iv p1, iv p2, iv p3, iv (1 : Int32), iv ln, rv r_1920, rv r_1923, iv s0, rv r_1930, rv r_1935, iv s1, rv r_1944, rv r_1951, iv s2, rv b1963, iv (1 : Int32), iv (1 : Int32)] [(.int (1 : Int32))])) _
        refine XS.iload X2218.here hx rfl (hb hby at_302) rfl ?_
        exact kt
      obtain ⟨_, _, ⟨T2221, L2221, k2221, n2221⟩, -, X2221, ⟨Lc2221, hQ2221, l2221, y2221, z2221⟩, st2221⟩ := Jvm.LawKit.callS X2218 hx (y := (⟨"com/example/homethread/homethread/cli/ScenarioReportExitStatusPinLaw", "want", "(Z)I"⟩ : MethodName)) hown (mvT hZ (W 139 rfl)) (mvT hZ (W 140 rfl)) (mvT hZ (W 2 rfl)) (mvT hZ (W 141 rfl)) (by decide) (backOf (W := 1) (rm_want26_1 l Z a0 hw [] h2191 n0 O2191) hZ (W 141 rfl) (W 2 rfl) (by decide) (by decide)) (g := (mkF m 304 #[iv p0, iv p1, iv p2, iv p3, iv (1 : Int32), iv ln, rv r_1920, rv r_1923, iv s0, rv r_1930, rv r_1935, iv s1, rv r_1944, rv r_1951, iv s2, rv b1963, iv (1 : Int32), iv (1 : Int32)] [(.int (1 : Int32)), (.int (1 : Int32))])) rfl (by rw [hml]; rfl) (argsL := [(.int (1 : Int32))]) (rest := [(.int (1 : Int32))]) (lenOf pd_52 rfl) rfl (by show 2 * 0 + _ ≤ _; exact Nat.le_of_eq rfl) (hb hby at_304) (fun _ _ => ⟨rfl, e2218, (by decide : 21 + 0 ≤ _), (by decide : 63 + 0 ≤ _)⟩)
      dsimp only [Pt.U, Pt.locs, Pt.cells, Pt.slots] at X2221 l2221 y2221 z2221 st2221 hQ2221
      replace l2221 := l2221.symm
      replace y2221 : 21 = k2221 := y2221.symm
      replace z2221 : 63 = n2221 := z2221.symm
      subst l2221 y2221 z2221
      obtain ⟨rfl, M2221, e2221⟩ := hQ2221
      have N2221 := Fr.app N2218 M2221
      have pre2222 : ∀ t, Steps p.tables e below (T2221.setTop (mkF m 307 #[iv p0, iv p1, iv p2, iv p3, iv (1 : Int32), iv ln, rv r_1920, rv r_1923, iv s0, rv r_1930, rv r_1935, iv s1, rv r_1944, rv r_1951, iv s2, rv b1963, iv (1 : Int32), iv (1 : Int32)] [(.int (1 : Int32)), (.int (1 : Int32))])) t → Steps p.tables e below (s₁.setTop (entryFrame m #[(.int p0), (.int p1), (.int p2), (.int p3)] maxLocals)) t := fun t kt => pre2220 _ (st2221 _ kt)
      have pre2223 : ∀ t, Steps p.tables e below (T2221.setTop (mkF m 319 #[iv p0, iv p1, iv p2, iv p3, iv (1 : Int32), iv ln, rv r_1920, rv r_1923, iv s0, rv r_1930, rv r_1935, iv s1, rv r_1944, rv r_1951, iv s2, rv b1963, iv (1 : Int32), iv (1 : Int32)] [(.int (1 : Int32))])) t → Steps p.tables e below (s₁.setTop (entryFrame m #[(.int p0), (.int p1), (.int p2), (.int p3)] maxLocals)) t := fun t kt => by
        refine pre2222 _ ?_
        show Steps p.tables e below (T2221.setTop (mkF m 307 #[iv p0, iv p1, iv p2, iv p3, iv (1 : Int32), iv ln, rv r_1920, rv r_1923, iv s0, rv r_1930, rv r_1935, iv s1, rv r_1944, rv r_1951, iv s2, rv b1963, iv (1 : Int32), iv (1 : Int32)] [(.int (1 : Int32)), (.int (1 : Int32))])) _
        refine XS.icmpNo X2221.here hx rfl (hb hby at_307) rfl (XT.ii_ne_f (by decide)) ?_
        refine XS.iconst X2221.here hx rfl (hb hby at_310) ?_
        refine XS.goto X2221.here hx rfl (pc0 := 311) (pc' := 315) rfl (hb hby at_311) (by decide) (by decide) ?_
        refine XS.istore X2221.here hx rfl (hb hby at_315) rfl (l' := #[iv p0, iv p1, iv p2, iv p3, iv (1 : Int32), iv ln, rv r_1920, rv r_1923, iv s0, rv r_1930, rv r_1935, iv s1, rv r_1944, rv r_1951, iv s2, rv b1963, iv (1 : Int32), iv (1 : Int32)]) rfl ?_
        refine XS.iload X2221.here hx rfl (hb hby at_317) rfl ?_
        exact kt
      obtain ⟨fs, hr, hrun, hended, hW, hsame⟩ := X2221.leave (v := some (.int (1 : Int32))) (fun h => by rw [Bd.returns] at h; cases h)
      refine ⟨_, _, pre2223 _ (retN X2221 hx (t := .boolean) Bd.returns (by simp) (hb hby at_319) hr), hrun, hended, _, _, rfl, ?_, ⟨_, rfl⟩, hW, hsame.mono (by decide) (by decide)⟩
      show Q_law Z p0 p1 p2 p3 cz ad kd h0 n0 _ T2221.heap _
      rw [e2221]
      exact ⟨rfl, N2221⟩
    · rw [← hs0] at hs2194a
      have F2224 : Fld Z h2191 b1963 "com/example/homethread/homethread/cli/ScenarioReport" "differs" "Z" (.int (0 : Int32)) := own_fldcast J2191_2 (own_dif1 hs2194b)
      have pre2225 : ∀ t, Steps p.tables e below (T2191.setTop (mkF m 160 #[iv p0, iv p1, iv p2, iv p3, iv (1 : Int32), iv ln, rv r_1920, rv r_1923, iv s0, rv r_1930, rv r_1935, iv s1, rv r_1944, rv r_1951, iv s2, rv b1963, iv (1 : Int32), iv (0 : Int32)] [(.ref b1963)])) t → Steps p.tables e below (s₁.setTop (entryFrame m #[(.int p0), (.int p1), (.int p2), (.int p3)] maxLocals)) t := fun t kt => by
        refine pre2192 _ ?_
        show Steps p.tables e below (T2191.setTop (mkF m 136 #[iv p0, iv p1, iv p2, iv p3, iv (1 : Int32), iv ln, rv r_1920, rv r_1923, iv s0, rv r_1930, rv r_1935, iv s1, rv r_1944, rv r_1951, iv s2, rv b1963, iv (1 : Int32), iv (0 : Int32)] [])) _
        refine XS.iload X2191.here hx rfl (hb hby at_136) rfl ?_
        refine XS.ifNo X2191.here hx rfl (hb hby at_138) rfl (XT.i0_ne_f (by decide)) ?_
        refine XS.iload X2191.here hx rfl (hb hby at_141) rfl ?_
        refine XS.ifYes X2191.here hx rfl (pc0 := 143) (pc' := 150) rfl (hb hby at_143) rfl (XT.i0_ne_t hs2194a) (by decide) (by decide) ?_
        refine XS.iconst X2191.here hx rfl (hb hby at_150) ?_
        refine XS.istore X2191.here hx rfl (hb hby at_151) rfl (l' := #[iv p0, iv p1, iv p2, iv p3, iv (1 : Int32), iv ln, rv r_1920, rv r_1923, iv s0, rv r_1930, rv r_1935, iv s1, rv r_1944, rv r_1951, iv s2, rv b1963, iv (1 : Int32), iv (0 : Int32)]) rfl ?_
        refine XS.iload X2191.here hx rfl (hb hby at_153) rfl ?_
        refine XS.ifNo X2191.here hx rfl (hb hby at_155) rfl (XT.i0_eq_f (by decide)) ?_
        show Steps p.tables e below (T2191.setTop (mkF m 158 #[iv p0, iv p1, iv p2, iv p3, iv (1 : Int32), iv ln, rv r_1920, rv r_1923, iv s0, rv r_1930, rv r_1935, iv s1, rv r_1944, rv r_1951, iv s2, rv b1963, iv (1 : Int32), iv (0 : Int32)] [])) _
        refine XS.aload X2191.here hx rfl (hb hby at_158) rfl rfl ?_
        exact kt
      obtain ⟨cq2226, kq2226, q2226a, q2226b, q2226c⟩ := isOf hZ e2191 J2191_0
      obtain ⟨_, _, ⟨T2226, L2226, k2226, n2226⟩, -, X2226, ⟨Lc2226, hQ2226, l2226, y2226, z2226⟩, st2226⟩ := X2191.virtualBack hx (y := (⟨"com/example/homethread/homethread/cli/ScenarioReport", "exitStatus", "()I"⟩ : MethodName)) (z := (⟨"com/example/homethread/homethread/cli/ScenarioReport", "exitStatus", "()I"⟩ : MethodName)) hown (mvT hZ (W 82 rfl)) (mvT hZ (W 83 rfl)) (notFace_of_selects (args := #[]) (mvT hZ (W 85 rfl))) (mvT hZ (W 85 rfl)) (mvT hZ (W 84 rfl)) (by decide) (backOf (W := 0) (rm_exitStatus17_0 l Z a0 hw [] b1963 h2191 n0 O2191 F2224) hZ (W 86 rfl) (W 51 rfl) (by decide) (by decide)) q2226a q2226c (g := (mkF m 160 #[iv p0, iv p1, iv p2, iv p3, iv (1 : Int32), iv ln, rv r_1920, rv r_1923, iv s0, rv r_1930, rv r_1935, iv s1, rv r_1944, rv r_1951, iv s2, rv b1963, iv (1 : Int32), iv (0 : Int32)] [(.ref b1963)])) rfl (by rw [hml]; rfl) (Steps.refl _) (argsL := []) (rest := []) (lenOf pd_50 rfl) rfl (by show 2 * 0 + _ ≤ _; exact Nat.le_of_eq rfl) (hb hby at_160) (fun _ _ => ⟨rfl, e2191, (by decide : 21 + 0 ≤ _), (by decide : 63 + 0 ≤ _)⟩)
      dsimp only [Pt.U, Pt.locs, Pt.cells, Pt.slots] at X2226 l2226 y2226 z2226 st2226 hQ2226
      replace l2226 := l2226.symm
      replace y2226 : 21 = k2226 := y2226.symm
      replace z2226 : 63 = n2226 := z2226.symm
      subst l2226 y2226 z2226
      obtain ⟨rfl, M2226, e2226⟩ := hQ2226
      have N2226 := Fr.app N2191 M2226
      have pre2227 : ∀ t, Steps p.tables e below (T2226.setTop (mkF m 163 #[iv p0, iv p1, iv p2, iv p3, iv (1 : Int32), iv ln, rv r_1920, rv r_1923, iv s0, rv r_1930, rv r_1935, iv s1, rv r_1944, rv r_1951, iv s2, rv b1963, iv (1 : Int32), iv (0 : Int32)] [(.int (0 : Int32))])) t → Steps p.tables e below (s₁.setTop (entryFrame m #[(.int p0), (.int p1), (.int p2), (.int p3)] maxLocals)) t := fun t kt => pre2225 _ (st2226.trans kt)
      have pre2228 : ∀ t, Steps p.tables e below (T2226.setTop (mkF m 165 #[iv p0, iv p1, iv p2, iv p3, iv (1 : Int32), iv ln, rv r_1920, rv r_1923, iv s0, rv r_1930, rv r_1935, iv s1, rv r_1944, rv r_1951, iv s2, rv b1963, iv (1 : Int32), iv (0 : Int32)] [(.int (0 : Int32)), (.int (0 : Int32))])) t → Steps p.tables e below (s₁.setTop (entryFrame m #[(.int p0), (.int p1), (.int p2), (.int p3)] maxLocals)) t := fun t kt => by
        refine pre2227 _ ?_
        show Steps p.tables e below (T2226.setTop (mkF m 163 #[iv p0, iv p1, iv p2, iv p3, iv (1 : Int32), iv ln, rv r_1920, rv r_1923, iv s0, rv r_1930, rv r_1935, iv s1, rv r_1944, rv r_1951, iv s2, rv b1963, iv (1 : Int32), iv (0 : Int32)] [(.int (0 : Int32))])) _
        refine XS.iload X2226.here hx rfl (hb hby at_163) rfl ?_
        exact kt
      obtain ⟨_, _, ⟨T2229, L2229, k2229, n2229⟩, -, X2229, ⟨Lc2229, hQ2229, l2229, y2229, z2229⟩, st2229⟩ := Jvm.LawKit.callS X2226 hx (y := (⟨"com/example/homethread/homethread/cli/ScenarioReportExitStatusPinLaw", "want", "(Z)I"⟩ : MethodName)) hown (mvT hZ (W 139 rfl)) (mvT hZ (W 140 rfl)) (mvT hZ (W 2 rfl)) (mvT hZ (W 141 rfl)) (by decide) (backOf (W := 1) (rm_want26_0 l Z a0 hw [] h2191 n0 O2191) hZ (W 141 rfl) (W 2 rfl) (by decide) (by decide)) (g := (mkF m 165 #[iv p0, iv p1, iv p2, iv p3, iv (1 : Int32), iv ln, rv r_1920, rv r_1923, iv s0, rv r_1930, rv r_1935, iv s1, rv r_1944, rv r_1951, iv s2, rv b1963, iv (1 : Int32), iv (0 : Int32)] [(.int (0 : Int32)), (.int (0 : Int32))])) rfl (by rw [hml]; rfl) (argsL := [(.int (0 : Int32))]) (rest := [(.int (0 : Int32))]) (lenOf pd_52 rfl) rfl (by show 2 * 0 + _ ≤ _; exact Nat.le_of_eq rfl) (hb hby at_165) (fun _ _ => ⟨rfl, e2226, (by decide : 21 + 0 ≤ _), (by decide : 63 + 0 ≤ _)⟩)
      dsimp only [Pt.U, Pt.locs, Pt.cells, Pt.slots] at X2229 l2229 y2229 z2229 st2229 hQ2229
      replace l2229 := l2229.symm
      replace y2229 : 21 = k2229 := y2229.symm
      replace z2229 : 63 = n2229 := z2229.symm
      subst l2229 y2229 z2229
      obtain ⟨rfl, M2229, e2229⟩ := hQ2229
      have N2229 := Fr.app N2226 M2229
      have pre2230 : ∀ t, Steps p.tables e below (T2229.setTop (mkF m 168 #[iv p0, iv p1, iv p2, iv p3, iv (1 : Int32), iv ln, rv r_1920, rv r_1923, iv s0, rv r_1930, rv r_1935, iv s1, rv r_1944, rv r_1951, iv s2, rv b1963, iv (1 : Int32), iv (0 : Int32)] [(.int (0 : Int32)), (.int (0 : Int32))])) t → Steps p.tables e below (s₁.setTop (entryFrame m #[(.int p0), (.int p1), (.int p2), (.int p3)] maxLocals)) t := fun t kt => pre2228 _ (st2229 _ kt)
      have pre2231 : ∀ t, Steps p.tables e below (T2229.setTop (mkF m 299 #[iv p0, iv p1, iv p2, iv p3, iv (1 : Int32), iv ln, rv r_1920, rv r_1923, iv s0, rv r_1930, rv r_1935, iv s1, rv r_1944, rv r_1951, iv s2, rv b1963, iv (1 : Int32), iv (0 : Int32)] [(.ref b1963)])) t → Steps p.tables e below (s₁.setTop (entryFrame m #[(.int p0), (.int p1), (.int p2), (.int p3)] maxLocals)) t := fun t kt => by
        refine pre2230 _ ?_
        show Steps p.tables e below (T2229.setTop (mkF m 168 #[iv p0, iv p1, iv p2, iv p3, iv (1 : Int32), iv ln, rv r_1920, rv r_1923, iv s0, rv r_1930, rv r_1935, iv s1, rv r_1944, rv r_1951, iv s2, rv b1963, iv (1 : Int32), iv (0 : Int32)] [(.int (0 : Int32)), (.int (0 : Int32))])) _
        refine XS.icmpNo X2229.here hx rfl (hb hby at_168) rfl (XT.ii_ne_f (by decide)) ?_
        refine XS.iconst X2229.here hx rfl (hb hby at_171) ?_
        refine XS.goto X2229.here hx rfl (pc0 := 172) (pc' := 176) rfl (hb hby at_172) (by decide) (by decide) ?_
        refine XS.istore X2229.here hx rfl (hb hby at_176) rfl (l' := #[iv p0, iv p1, iv p2, iv p3, iv (1 : Int32), iv ln, rv r_1920, rv r_1923, iv s0, rv r_1930, rv r_1935, iv s1, rv r_1944, rv r_1951, iv s2, rv b1963, iv (1 : Int32), iv (0 : Int32)]) rfl ?_
        refine XS.iload X2229.here hx rfl (hb hby at_178) rfl ?_
        refine XS.iconst X2229.here hx rfl (hb hby at_180) ?_
        refine XS.icmpYes X2229.here hx rfl (pc0 := 181) (pc' := 235) rfl (hb hby at_181) rfl (XT.ii_lt_t (by decide)) (by decide) (by decide) ?_
        refine XS.iload X2229.here hx rfl (hb hby at_235) rfl ?_
        show Steps p.tables e below (T2229.setTop (mkF m 237 #[iv p0, iv p1, iv p2, iv p3, iv (1 : Int32), iv ln, rv r_1920, rv r_1923, iv s0, rv r_1930, rv r_1935, iv s1, rv r_1944, rv r_1951, iv s2, rv b1963, iv (1 : Int32), iv (0 : Int32)] [(.int (1 : Int32))])) _
        refine XS.iconst X2229.here hx rfl (hb hby at_237) ?_
        refine XS.icmpYes X2229.here hx rfl (pc0 := 238) (pc' := 292) rfl (hb hby at_238) rfl (XT.ii_lt_t (by decide)) (by decide) (by decide) ?_
        refine XS.iload X2229.here hx rfl (hb hby at_292) rfl ?_
        refine XS.ifNo X2229.here hx rfl (hb hby at_294) rfl (XT.i0_eq_f (by decide)) ?_
        refine XS.aload X2229.here hx rfl (hb hby at_297) rfl rfl ?_
        exact kt
      obtain ⟨cq2232, kq2232, q2232a, q2232b, q2232c⟩ := isOf hZ e2229 J2191_0
      obtain ⟨_, _, ⟨T2232, L2232, k2232, n2232⟩, -, X2232, ⟨Lc2232, hQ2232, l2232, y2232, z2232⟩, st2232⟩ := X2229.virtualBack hx (y := (⟨"com/example/homethread/homethread/cli/ScenarioReport", "exitStatus", "()I"⟩ : MethodName)) (z := (⟨"com/example/homethread/homethread/cli/ScenarioReport", "exitStatus", "()I"⟩ : MethodName)) hown (mvT hZ (W 82 rfl)) (mvT hZ (W 83 rfl)) (notFace_of_selects (args := #[]) (mvT hZ (W 85 rfl))) (mvT hZ (W 85 rfl)) (mvT hZ (W 84 rfl)) (by decide) (backOf (W := 0) (rm_exitStatus17_0 l Z a0 hw [] b1963 h2191 n0 O2191 F2224) hZ (W 86 rfl) (W 51 rfl) (by decide) (by decide)) q2232a q2232c (g := (mkF m 299 #[iv p0, iv p1, iv p2, iv p3, iv (1 : Int32), iv ln, rv r_1920, rv r_1923, iv s0, rv r_1930, rv r_1935, iv s1, rv r_1944, rv r_1951, iv s2, rv b1963, iv (1 : Int32), iv (0 : Int32)] [(.ref b1963)])) rfl (by rw [hml]; rfl) (Steps.refl _) (argsL := []) (rest := []) (lenOf pd_50 rfl) rfl (by show 2 * 0 + _ ≤ _; exact Nat.le_of_eq rfl) (hb hby at_299) (fun _ _ => ⟨rfl, e2229, (by decide : 21 + 0 ≤ _), (by decide : 63 + 0 ≤ _)⟩)
      dsimp only [Pt.U, Pt.locs, Pt.cells, Pt.slots] at X2232 l2232 y2232 z2232 st2232 hQ2232
      replace l2232 := l2232.symm
      replace y2232 : 21 = k2232 := y2232.symm
      replace z2232 : 63 = n2232 := z2232.symm
      subst l2232 y2232 z2232
      obtain ⟨rfl, M2232, e2232⟩ := hQ2232
      have N2232 := Fr.app N2229 M2232
      have pre2233 : ∀ t, Steps p.tables e below (T2232.setTop (mkF m 302 #[iv p0, iv p1, iv p2, iv p3, iv (1 : Int32), iv ln, rv r_1920, rv r_1923, iv s0, rv r_1930, rv r_1935, iv s1, rv r_1944, rv r_1951, iv s2, rv b1963, iv (1 : Int32), iv (0 : Int32)] [(.int (0 : Int32))])) t → Steps p.tables e below (s₁.setTop (entryFrame m #[(.int p0), (.int p1), (.int p2), (.int p3)] maxLocals)) t := fun t kt => pre2231 _ (st2232.trans kt)
      have pre2234 : ∀ t, Steps p.tables e below (T2232.setTop (mkF m 304 #[iv p0, iv p1, iv p2, iv p3, iv (1 : Int32), iv ln, rv r_1920, rv r_1923, iv s0, rv r_1930, rv r_1935, iv s1, rv r_1944, rv r_1951, iv s2, rv b1963, iv (1 : Int32), iv (0 : Int32)] [(.int (0 : Int32)), (.int (0 : Int32))])) t → Steps p.tables e below (s₁.setTop (entryFrame m #[(.int p0), (.int p1), (.int p2), (.int p3)] maxLocals)) t := fun t kt => by
        refine pre2233 _ ?_
        show Steps p.tables e below (T2232.setTop (mkF m 302 #[iv p0, iv p1, iv p2, iv p3, iv (1 : Int32), iv ln, rv r_1920, rv r_1923, iv s0, rv r_1930, rv r_1935, iv s1, rv r_1944, rv r_1951, iv s2, rv b1963, iv (1 : Int32), iv (0 : Int32)] [(.int (0 : Int32))])) _
        refine XS.iload X2232.here hx rfl (hb hby at_302) rfl ?_
        exact kt
      obtain ⟨_, _, ⟨T2235, L2235, k2235, n2235⟩, -, X2235, ⟨Lc2235, hQ2235, l2235, y2235, z2235⟩, st2235⟩ := Jvm.LawKit.callS X2232 hx (y := (⟨"com/example/homethread/homethread/cli/ScenarioReportExitStatusPinLaw", "want", "(Z)I"⟩ : MethodName)) hown (mvT hZ (W 139 rfl)) (mvT hZ (W 140 rfl)) (mvT hZ (W 2 rfl)) (mvT hZ (W 141 rfl)) (by decide) (backOf (W := 1) (rm_want26_0 l Z a0 hw [] h2191 n0 O2191) hZ (W 141 rfl) (W 2 rfl) (by decide) (by decide)) (g := (mkF m 304 #[iv p0, iv p1, iv p2, iv p3, iv (1 : Int32), iv ln, rv r_1920, rv r_1923, iv s0, rv r_1930, rv r_1935, iv s1, rv r_1944, rv r_1951, iv s2, rv b1963, iv (1 : Int32), iv (0 : Int32)] [(.int (0 : Int32)), (.int (0 : Int32))])) rfl (by rw [hml]; rfl) (argsL := [(.int (0 : Int32))]) (rest := [(.int (0 : Int32))]) (lenOf pd_52 rfl) rfl (by show 2 * 0 + _ ≤ _; exact Nat.le_of_eq rfl) (hb hby at_304) (fun _ _ => ⟨rfl, e2232, (by decide : 21 + 0 ≤ _), (by decide : 63 + 0 ≤ _)⟩)
      dsimp only [Pt.U, Pt.locs, Pt.cells, Pt.slots] at X2235 l2235 y2235 z2235 st2235 hQ2235
      replace l2235 := l2235.symm
      replace y2235 : 21 = k2235 := y2235.symm
      replace z2235 : 63 = n2235 := z2235.symm
      subst l2235 y2235 z2235
      obtain ⟨rfl, M2235, e2235⟩ := hQ2235
      have N2235 := Fr.app N2232 M2235
      have pre2236 : ∀ t, Steps p.tables e below (T2235.setTop (mkF m 307 #[iv p0, iv p1, iv p2, iv p3, iv (1 : Int32), iv ln, rv r_1920, rv r_1923, iv s0, rv r_1930, rv r_1935, iv s1, rv r_1944, rv r_1951, iv s2, rv b1963, iv (1 : Int32), iv (0 : Int32)] [(.int (0 : Int32)), (.int (0 : Int32))])) t → Steps p.tables e below (s₁.setTop (entryFrame m #[(.int p0), (.int p1), (.int p2), (.int p3)] maxLocals)) t := fun t kt => pre2234 _ (st2235 _ kt)
      have pre2237 : ∀ t, Steps p.tables e below (T2235.setTop (mkF m 319 #[iv p0, iv p1, iv p2, iv p3, iv (1 : Int32), iv ln, rv r_1920, rv r_1923, iv s0, rv r_1930, rv r_1935, iv s1, rv r_1944, rv r_1951, iv s2, rv b1963, iv (1 : Int32), iv (0 : Int32)] [(.int (1 : Int32))])) t → Steps p.tables e below (s₁.setTop (entryFrame m #[(.int p0), (.int p1), (.int p2), (.int p3)] maxLocals)) t := fun t kt => by
        refine pre2236 _ ?_
        show Steps p.tables e below (T2235.setTop (mkF m 307 #[iv p0, iv p1, iv p2, iv p3, iv (1 : Int32), iv ln, rv r_1920, rv r_1923, iv s0, rv r_1930, rv r_1935, iv s1, rv r_1944, rv r_1951, iv s2, rv b1963, iv (1 : Int32), iv (0 : Int32)] [(.int (0 : Int32)), (.int (0 : Int32))])) _
        refine XS.icmpNo X2235.here hx rfl (hb hby at_307) rfl (XT.ii_ne_f (by decide)) ?_
        refine XS.iconst X2235.here hx rfl (hb hby at_310) ?_
        refine XS.goto X2235.here hx rfl (pc0 := 311) (pc' := 315) rfl (hb hby at_311) (by decide) (by decide) ?_
        refine XS.istore X2235.here hx rfl (hb hby at_315) rfl (l' := #[iv p0, iv p1, iv p2, iv p3, iv (1 : Int32), iv ln, rv r_1920, rv r_1923, iv s0, rv r_1930, rv r_1935, iv s1, rv r_1944, rv r_1951, iv s2, rv b1963, iv (1 : Int32), iv (0 : Int32)]) rfl ?_
        refine XS.iload X2235.here hx rfl (hb hby at_317) rfl ?_
        exact kt
      obtain ⟨fs, hr, hrun, hended, hW, hsame⟩ := X2235.leave (v := some (.int (1 : Int32))) (fun h => by rw [Bd.returns] at h; cases h)
      refine ⟨_, _, pre2237 _ (retN X2235 hx (t := .boolean) Bd.returns (by simp) (hb hby at_319) hr), hrun, hended, _, _, rfl, ?_, ⟨_, rfl⟩, hW, hsame.mono (by decide) (by decide)⟩
      show Q_law Z p0 p1 p2 p3 cz ad kd h0 n0 _ T2235.heap _
      rw [e2235]
      exact ⟨rfl, N2235⟩
  · rw [hv2179] at pre2178
    have pre2238 : ∀ t, Steps p.tables e below (T2164.setTop (mkF m 133 #[iv p0, iv p1, iv p2, iv p3, iv (2 : Int32), iv ln, rv r_1920, rv r_1923, iv s0, rv r_1930, rv r_1935, iv s1, rv r_1944, rv r_1951, iv s2, rv b1963, iv (1 : Int32), iv (0 : Int32)] [(.ref r_1923), (.ref r_1920), (.ref b1963)])) t → Steps p.tables e below (s₁.setTop (entryFrame m #[(.int p0), (.int p1), (.int p2), (.int p3)] maxLocals)) t := fun t kt => by
      refine pre2178 _ ?_
      show Steps p.tables e below (T2164.setTop (mkF m 121 #[iv p0, iv p1, iv p2, iv p3, iv (2 : Int32), iv ln, rv r_1920, rv r_1923, iv s0, rv r_1930, rv r_1935, iv s1, rv r_1944, rv r_1951, iv s2, rv b1963, iv (1 : Int32), iv (0 : Int32)] [])) _
      refine XS.iload X2164.here hx rfl (hb hby at_121) rfl ?_
      refine XS.iconst X2164.here hx rfl (hb hby at_123) ?_
      refine XS.icmpNo X2164.here hx rfl (hb hby at_124) rfl (XT.ii_lt_f (by decide)) ?_
      refine XS.aload X2164.here hx rfl (hb hby at_127) rfl rfl ?_
      refine XS.aload X2164.here hx rfl (hb hby at_129) rfl rfl ?_
      refine XS.aload X2164.here hx rfl (hb hby at_131) rfl rfl ?_
      exact kt
    obtain ⟨cq2239, kq2239, q2239a, q2239b, q2239c⟩ := isOf hZ e2164 J1970_0
    obtain ⟨_, _, ⟨T2239, L2239, k2239, n2239⟩, -, X2239, ⟨Lc2239, hQ2239, l2239, y2239, z2239⟩, st2239⟩ := X2164.virtualBack hx (y := (⟨"com/example/homethread/homethread/cli/ScenarioReport", "expectLine", "(Ljava/lang/String;Ljava/lang/String;)V"⟩ : MethodName)) (z := (⟨"com/example/homethread/homethread/cli/ScenarioReport", "expectLine", "(Ljava/lang/String;Ljava/lang/String;)V"⟩ : MethodName)) hown (mvT hZ (W 89 rfl)) (mvT hZ (W 90 rfl)) (notFace_of_selects (args := #[]) (mvT hZ (W 92 rfl))) (mvT hZ (W 92 rfl)) (mvT hZ (W 91 rfl)) (by decide) (backOf (W := 0) (rm_line0 l Z a0 hw [] b1963 r_1920 r_1923 cz ad kd b2137_1970 ((0 : Int32)) ((0 : Int32)) ((ln &&& (2 : Int32))) ((own_b ((p0 &&& (255 : Int32)) ^^^ (own_x0 p0)))) ((own_b ((((p0.toUInt32 >>> ((8 : Int32) &&& 31).toUInt32).toInt32) &&& (255 : Int32)) ^^^ (own_x1 p0)))) ((ln &&& (1 : Int32))) ((own_b (p0 &&& (255 : Int32)))) ((own_b (((p0.toUInt32 >>> ((8 : Int32) &&& 31).toUInt32).toInt32) &&& (255 : Int32)))) h1970 n0 O1970 G0 G1 G2 G3 g_b1963 g_b2137_1970 J1970_0 J1970_6 J1970_1 J1970_2 J1970_4 J1970_5 J1970_3 qz (fun q => ne_r_1920_r_1923 q.symm) (Or.inl rfl) ne_b1963_b2137_1970 h1951 XF2162 F1954 F1953 zF_b1963 zF_b2137_1970) hZ (W 93 rfl) (W 51 rfl) (by decide) (by decide)) q2239a q2239c (g := (mkF m 133 #[iv p0, iv p1, iv p2, iv p3, iv (2 : Int32), iv ln, rv r_1920, rv r_1923, iv s0, rv r_1930, rv r_1935, iv s1, rv r_1944, rv r_1951, iv s2, rv b1963, iv (1 : Int32), iv (0 : Int32)] [(.ref r_1923), (.ref r_1920), (.ref b1963)])) rfl (by rw [hml]; rfl) (Steps.refl _) (argsL := [(.ref r_1920), (.ref r_1923)]) (rest := []) (lenOf pd_53 rfl) rfl (by show 2 * 0 + _ ≤ _; exact Nat.le_of_eq rfl) (hb hby at_133) (fun _ _ => ⟨rfl, e2164, (by decide : 20 + 1 ≤ _), (by decide : 53 + 10 ≤ _)⟩)
    dsimp only [Pt.U, Pt.locs, Pt.cells, Pt.slots] at X2239 l2239 y2239 z2239 st2239 hQ2239
    replace l2239 := l2239.symm
    replace y2239 : 21 = k2239 := y2239.symm
    replace z2239 : 63 = n2239 := z2239.symm
    subst l2239 y2239 z2239
    obtain ⟨na_2239, kna_2239, rfl, M2239, Kc2239, O2239, J2239_0, J2239_1, J2239_2, J2239_3, J2239_4, J2239_5, J2239_6, J2239_7, J2239_8, J2239_9, P2239_0⟩ := hQ2239
    obtain ⟨h2239, e2239⟩ : ∃ z, T2239.heap = z := ⟨_, rfl⟩
    rw [e2239] at Kc2239 O2239 J2239_0 J2239_1 J2239_2 J2239_3 J2239_4 J2239_5 J2239_6 J2239_7 J2239_8
    try rw [e2239] at P2239_0
    have N2239 := Fr.app N2164 M2239
    have K2239 : Keep h0 h2239 [] := K1970.trans Kc2239 (own_all2 (Or.inr sz_b1963) (Or.inr sz_b2137_1970))
    have pre2240 : ∀ t, Steps p.tables e below (T2239.setTop (mkF m 136 #[iv p0, iv p1, iv p2, iv p3, iv (2 : Int32), iv ln, rv r_1920, rv r_1923, iv s0, rv r_1930, rv r_1935, iv s1, rv r_1944, rv r_1951, iv s2, rv b1963, iv (1 : Int32), iv (0 : Int32)] [])) t → Steps p.tables e below (s₁.setTop (entryFrame m #[(.int p0), (.int p1), (.int p2), (.int p3)] maxLocals)) t := fun t kt => pre2238 _ (st2239.trans kt)
    have XF2241 : Ext h1951 h2239 := own_ext_keep XF2162 Kc2239 (own_all2 zF_b1963 zF_b2137_1970)
    have sz_na_2239 : h0.size ≤ na_2239 := Nat.le_trans K1970.1 P2239_0
    have ne_ad_na_2239 : ad ≠ na_2239 := Nat.ne_of_lt (Nat.lt_of_lt_of_le (G2.ext O1970.2).lt P2239_0)
    have ne_r_1920_na_2239 : r_1920 ≠ na_2239 := Nat.ne_of_lt (Nat.lt_of_lt_of_le (own_str_lt (own_str_ext F1953 XF2162)) P2239_0)
    have ne_r_1923_na_2239 : r_1923 ≠ na_2239 := Nat.ne_of_lt (Nat.lt_of_lt_of_le (own_str_lt (own_str_ext F1954 XF2162)) P2239_0)
    have ne_r_1930_na_2239 : r_1930 ≠ na_2239 := Nat.ne_of_lt (Nat.lt_of_lt_of_le (own_str_lt (own_str_ext F1955 XF2162)) P2239_0)
    have ne_r_1935_na_2239 : r_1935 ≠ na_2239 := Nat.ne_of_lt (Nat.lt_of_lt_of_le (own_str_lt (own_str_ext F1956 XF2162)) P2239_0)
    have ne_r_1944_na_2239 : r_1944 ≠ na_2239 := Nat.ne_of_lt (Nat.lt_of_lt_of_le (own_str_lt (own_str_ext F1957 XF2162)) P2239_0)
    have ne_r_1951_na_2239 : r_1951 ≠ na_2239 := Nat.ne_of_lt (Nat.lt_of_lt_of_le (own_str_lt (own_str_ext J1951_0 XF2162)) P2239_0)
    have ne_b1963_na_2239 : b1963 ≠ na_2239 := Nat.ne_of_lt (Nat.lt_of_lt_of_le J1970_0.lt P2239_0)
    have ne_b2137_1970_na_2239 : b2137_1970 ≠ na_2239 := Nat.ne_of_lt (Nat.lt_of_lt_of_le J1970_2.lt P2239_0)
    have g_na_2239 : n0 ≤ na_2239 := Nat.le_trans (Nat.le_trans (Nat.le_of_eq O0.1.symm) O0.2.1) sz_na_2239
    have zF_na_2239 : h1951.size ≤ na_2239 := Nat.le_trans XF2162.1 P2239_0
    rcases own_sync p0 ln with ⟨hs2242a, hs2242b⟩ | ⟨hs2242a, hs2242b⟩
    · rw [← hs0] at hs2242a
      have F2243 : Fld Z h2239 b1963 "com/example/homethread/homethread/cli/ScenarioReport" "differs" "Z" (.int (1 : Int32)) := own_fldcast J2239_2 (own_dif0 hs2242b)
      have pre2244 : ∀ t, Steps p.tables e below (T2239.setTop (mkF m 160 #[iv p0, iv p1, iv p2, iv p3, iv (2 : Int32), iv ln, rv r_1920, rv r_1923, iv s0, rv r_1930, rv r_1935, iv s1, rv r_1944, rv r_1951, iv s2, rv b1963, iv (1 : Int32), iv (1 : Int32)] [(.ref b1963)])) t → Steps p.tables e below (s₁.setTop (entryFrame m #[(.int p0), (.int p1), (.int p2), (.int p3)] maxLocals)) t := fun t kt => by
        refine pre2240 _ ?_
        show Steps p.tables e below (T2239.setTop (mkF m 136 #[iv p0, iv p1, iv p2, iv p3, iv (2 : Int32), iv ln, rv r_1920, rv r_1923, iv s0, rv r_1930, rv r_1935, iv s1, rv r_1944, rv r_1951, iv s2, rv b1963, iv (1 : Int32), iv (0 : Int32)] [])) _
        refine XS.iload X2239.here hx rfl (hb hby at_136) rfl ?_
        refine XS.ifNo X2239.here hx rfl (hb hby at_138) rfl (XT.i0_ne_f (by decide)) ?_
        refine XS.iload X2239.here hx rfl (hb hby at_141) rfl ?_
        refine XS.ifNo X2239.here hx rfl (hb hby at_143) rfl (XT.i0_ne_f hs2242a) ?_
        refine XS.iconst X2239.here hx rfl (hb hby at_146) ?_
        refine XS.goto X2239.here hx rfl (pc0 := 147) (pc' := 151) rfl (hb hby at_147) (by decide) (by decide) ?_
        refine XS.istore X2239.here hx rfl (hb hby at_151) rfl (l' := #[iv p0, iv p1, iv p2, iv p3, iv (2 : Int32), iv ln, rv r_1920, rv r_1923, iv s0, rv r_1930, rv r_1935, iv s1, rv r_1944, rv r_1951, iv s2, rv b1963, iv (1 : Int32), iv (1 : Int32)]) rfl ?_
        refine XS.iload X2239.here hx rfl (hb hby at_153) rfl ?_
        show Steps p.tables e below (T2239.setTop (mkF m 155 #[iv p0, iv p1, iv p2, iv p3, iv (2 : Int32), iv ln, rv r_1920, rv r_1923, iv s0, rv r_1930, rv r_1935, iv s1, rv r_1944, rv r_1951, iv s2, rv b1963, iv (1 : Int32), iv (1 : Int32)] [(.int (1 : Int32))])) _
        refine XS.ifNo X2239.here hx rfl (hb hby at_155) rfl (XT.i0_eq_f (by decide)) ?_
        refine XS.aload X2239.here hx rfl (hb hby at_158) rfl rfl ?_
        exact kt
      obtain ⟨cq2245, kq2245, q2245a, q2245b, q2245c⟩ := isOf hZ e2239 J2239_0
      obtain ⟨_, _, ⟨T2245, L2245, k2245, n2245⟩, -, X2245, ⟨Lc2245, hQ2245, l2245, y2245, z2245⟩, st2245⟩ := X2239.virtualBack hx (y := (⟨"com/example/homethread/homethread/cli/ScenarioReport", "exitStatus", "()I"⟩ : MethodName)) (z := (⟨"com/example/homethread/homethread/cli/ScenarioReport", "exitStatus", "()I"⟩ : MethodName)) hown (mvT hZ (W 82 rfl)) (mvT hZ (W 83 rfl)) (notFace_of_selects (args := #[]) (mvT hZ (W 85 rfl))) (mvT hZ (W 85 rfl)) (mvT hZ (W 84 rfl)) (by decide) (backOf (W := 0) (rm_exitStatus17_1 l Z a0 hw [] b1963 h2239 n0 O2239 F2243) hZ (W 86 rfl) (W 51 rfl) (by decide) (by decide)) q2245a q2245c (g := (mkF m 160 #[iv p0, iv p1, iv p2, iv p3, iv (2 : Int32), iv ln, rv r_1920, rv r_1923, iv s0, rv r_1930, rv r_1935, iv s1, rv r_1944, rv r_1951, iv s2, rv b1963, iv (1 : Int32), iv (1 : Int32)] [(.ref b1963)])) rfl (by rw [hml]; rfl) (Steps.refl _) (argsL := []) (rest := []) (lenOf pd_50 rfl) rfl (by show 2 * 0 + _ ≤ _; exact Nat.le_of_eq rfl) (hb hby at_160) (fun _ _ => ⟨rfl, e2239, (by decide : 21 + 0 ≤ _), (by decide : 63 + 0 ≤ _)⟩)
      dsimp only [Pt.U, Pt.locs, Pt.cells, Pt.slots] at X2245 l2245 y2245 z2245 st2245 hQ2245
      replace l2245 := l2245.symm
      replace y2245 : 21 = k2245 := y2245.symm
      replace z2245 : 63 = n2245 := z2245.symm
      subst l2245 y2245 z2245
      obtain ⟨rfl, M2245, e2245⟩ := hQ2245
      have N2245 := Fr.app N2239 M2245
      have pre2246 : ∀ t, Steps p.tables e below (T2245.setTop (mkF m 163 #[iv p0, iv p1, iv p2, iv p3, iv (2 : Int32), iv ln, rv r_1920, rv r_1923, iv s0, rv r_1930, rv r_1935, iv s1, rv r_1944, rv r_1951, iv s2, rv b1963, iv (1 : Int32), iv (1 : Int32)] [(.int (1 : Int32))])) t → Steps p.tables e below (s₁.setTop (entryFrame m #[(.int p0), (.int p1), (.int p2), (.int p3)] maxLocals)) t := fun t kt => pre2244 _ (st2245.trans kt)
      have pre2247 : ∀ t, Steps p.tables e below (T2245.setTop (mkF m 165 #[iv p0, iv p1, iv p2, iv p3, iv (2 : Int32), iv ln, rv r_1920, rv r_1923, iv s0, rv r_1930, rv r_1935, iv s1, rv r_1944, rv r_1951, iv s2, rv b1963, iv (1 : Int32), iv (1 : Int32)] [(.int (1 : Int32)), (.int (1 : Int32))])) t → Steps p.tables e below (s₁.setTop (entryFrame m #[(.int p0), (.int p1), (.int p2), (.int p3)] maxLocals)) t := fun t kt => by
        refine pre2246 _ ?_
        show Steps p.tables e below (T2245.setTop (mkF m 163 #[iv p0, iv p1, iv p2, iv p3, iv (2 : Int32), iv ln, rv r_1920, rv r_1923, iv s0, rv r_1930, rv r_1935, iv s1, rv r_1944, rv r_1951, iv s2, rv b1963, iv (1 : Int32), iv (1 : Int32)] [(.int (1 : Int32))])) _
        refine XS.iload X2245.here hx rfl (hb hby at_163) rfl ?_
        exact kt
      obtain ⟨_, _, ⟨T2248, L2248, k2248, n2248⟩, -, X2248, ⟨Lc2248, hQ2248, l2248, y2248, z2248⟩, st2248⟩ := Jvm.LawKit.callS X2245 hx (y := (⟨"com/example/homethread/homethread/cli/ScenarioReportExitStatusPinLaw", "want", "(Z)I"⟩ : MethodName)) hown (mvT hZ (W 139 rfl)) (mvT hZ (W 140 rfl)) (mvT hZ (W 2 rfl)) (mvT hZ (W 141 rfl)) (by decide) (backOf (W := 1) (rm_want26_1 l Z a0 hw [] h2239 n0 O2239) hZ (W 141 rfl) (W 2 rfl) (by decide) (by decide)) (g := (mkF m 165 #[iv p0, iv p1, iv p2, iv p3, iv (2 : Int32), iv ln, rv r_1920, rv r_1923, iv s0, rv r_1930, rv r_1935, iv s1, rv r_1944, rv r_1951, iv s2, rv b1963, iv (1 : Int32), iv (1 : Int32)] [(.int (1 : Int32)), (.int (1 : Int32))])) rfl (by rw [hml]; rfl) (argsL := [(.int (1 : Int32))]) (rest := [(.int (1 : Int32))]) (lenOf pd_52 rfl) rfl (by show 2 * 0 + _ ≤ _; exact Nat.le_of_eq rfl) (hb hby at_165) (fun _ _ => ⟨rfl, e2245, (by decide : 21 + 0 ≤ _), (by decide : 63 + 0 ≤ _)⟩)
      dsimp only [Pt.U, Pt.locs, Pt.cells, Pt.slots] at X2248 l2248 y2248 z2248 st2248 hQ2248
      replace l2248 := l2248.symm
      replace y2248 : 21 = k2248 := y2248.symm
      replace z2248 : 63 = n2248 := z2248.symm
      subst l2248 y2248 z2248
      obtain ⟨rfl, M2248, e2248⟩ := hQ2248
      have N2248 := Fr.app N2245 M2248
      have pre2249 : ∀ t, Steps p.tables e below (T2248.setTop (mkF m 168 #[iv p0, iv p1, iv p2, iv p3, iv (2 : Int32), iv ln, rv r_1920, rv r_1923, iv s0, rv r_1930, rv r_1935, iv s1, rv r_1944, rv r_1951, iv s2, rv b1963, iv (1 : Int32), iv (1 : Int32)] [(.int (1 : Int32)), (.int (1 : Int32))])) t → Steps p.tables e below (s₁.setTop (entryFrame m #[(.int p0), (.int p1), (.int p2), (.int p3)] maxLocals)) t := fun t kt => pre2247 _ (st2248 _ kt)
      have pre2250 : ∀ t, Steps p.tables e below (T2248.setTop (mkF m 190 #[iv p0, iv p1, iv p2, iv p3, iv (2 : Int32), iv ln, rv r_1920, rv r_1923, iv s0, rv r_1930, rv r_1935, iv s1, rv r_1944, rv r_1951, iv s2, rv b1963, iv (1 : Int32), iv (1 : Int32)] [(.ref r_1935), (.ref r_1930), (.ref b1963)])) t → Steps p.tables e below (s₁.setTop (entryFrame m #[(.int p0), (.int p1), (.int p2), (.int p3)] maxLocals)) t := fun t kt => by
        refine pre2249 _ ?_
        show Steps p.tables e below (T2248.setTop (mkF m 168 #[iv p0, iv p1, iv p2, iv p3, iv (2 : Int32), iv ln, rv r_1920, rv r_1923, iv s0, rv r_1930, rv r_1935, iv s1, rv r_1944, rv r_1951, iv s2, rv b1963, iv (1 : Int32), iv (1 : Int32)] [(.int (1 : Int32)), (.int (1 : Int32))])) _
        refine XS.icmpNo X2248.here hx rfl (hb hby at_168) rfl (XT.ii_ne_f (by decide)) ?_
        refine XS.iconst X2248.here hx rfl (hb hby at_171) ?_
        refine XS.goto X2248.here hx rfl (pc0 := 172) (pc' := 176) rfl (hb hby at_172) (by decide) (by decide) ?_
        refine XS.istore X2248.here hx rfl (hb hby at_176) rfl (l' := #[iv p0, iv p1, iv p2, iv p3, iv (2 : Int32), iv ln, rv r_1920, rv r_1923, iv s0, rv r_1930, rv r_1935, iv s1, rv r_1944, rv r_1951, iv s2, rv b1963, iv (1 : Int32), iv (1 : Int32)]) rfl ?_
        refine XS.iload X2248.here hx rfl (hb hby at_178) rfl ?_
        refine XS.iconst X2248.here hx rfl (hb hby at_180) ?_
        refine XS.icmpNo X2248.here hx rfl (hb hby at_181) rfl (XT.ii_lt_f (by decide)) ?_
        refine XS.aload X2248.here hx rfl (hb hby at_184) rfl rfl ?_
        show Steps p.tables e below (T2248.setTop (mkF m 186 #[iv p0, iv p1, iv p2, iv p3, iv (2 : Int32), iv ln, rv r_1920, rv r_1923, iv s0, rv r_1930, rv r_1935, iv s1, rv r_1944, rv r_1951, iv s2, rv b1963, iv (1 : Int32), iv (1 : Int32)] [(.ref b1963)])) _
        refine XS.aload X2248.here hx rfl (hb hby at_186) rfl rfl ?_
        refine XS.aload X2248.here hx rfl (hb hby at_188) rfl rfl ?_
        exact kt
      obtain ⟨cq2251, kq2251, q2251a, q2251b, q2251c⟩ := isOf hZ e2248 J2239_0
      obtain ⟨_, _, ⟨T2251, L2251, k2251, n2251⟩, -, X2251, ⟨Lc2251, hQ2251, l2251, y2251, z2251⟩, st2251⟩ := X2248.virtualBack hx (y := (⟨"com/example/homethread/homethread/cli/ScenarioReport", "expectLine", "(Ljava/lang/String;Ljava/lang/String;)V"⟩ : MethodName)) (z := (⟨"com/example/homethread/homethread/cli/ScenarioReport", "expectLine", "(Ljava/lang/String;Ljava/lang/String;)V"⟩ : MethodName)) hown (mvT hZ (W 89 rfl)) (mvT hZ (W 90 rfl)) (notFace_of_selects (args := #[]) (mvT hZ (W 92 rfl))) (mvT hZ (W 92 rfl)) (mvT hZ (W 91 rfl)) (by decide) (backOf (W := 0) (rm_line1 l Z a0 hw [] b1963 r_1930 r_1935 cz ad kd b2137_1970 (((0 : Int32) + (1 : Int32))) ((1 : Int32)) ((l2 &&& (2 : Int32))) ((own_b ((p1 &&& (255 : Int32)) ^^^ (own_x0 p1)))) ((own_b ((((p1.toUInt32 >>> ((8 : Int32) &&& 31).toUInt32).toInt32) &&& (255 : Int32)) ^^^ (own_x1 p1)))) ((l2 &&& (1 : Int32))) ((own_b (p1 &&& (255 : Int32)))) ((own_b (((p1.toUInt32 >>> ((8 : Int32) &&& 31).toUInt32).toInt32) &&& (255 : Int32)))) na_2239 kna_2239 ((.ref r_1923)) h2239 n0 O2239 G0 G1 G2 G3 g_b1963 g_b2137_1970 g_na_2239 J2239_0 J2239_1 F2243 J2239_3 J2239_4 J2239_5 J2239_6 J2239_7 J2239_8 J2239_9 qz (fun q => ne_r_1930_r_1935 q.symm) (Or.inr rfl) ne_b1963_b2137_1970 ne_b1963_na_2239 ne_b2137_1970_na_2239 h1951 XF2241 F1956 F1955 zF_b1963 zF_b2137_1970 zF_na_2239) hZ (W 93 rfl) (W 51 rfl) (by decide) (by decide)) q2251a q2251c (g := (mkF m 190 #[iv p0, iv p1, iv p2, iv p3, iv (2 : Int32), iv ln, rv r_1920, rv r_1923, iv s0, rv r_1930, rv r_1935, iv s1, rv r_1944, rv r_1951, iv s2, rv b1963, iv (1 : Int32), iv (1 : Int32)] [(.ref r_1935), (.ref r_1930), (.ref b1963)])) rfl (by rw [hml]; rfl) (Steps.refl _) (argsL := [(.ref r_1930), (.ref r_1935)]) (rest := []) (lenOf pd_53 rfl) rfl (by show 2 * 0 + _ ≤ _; exact Nat.le_of_eq rfl) (hb hby at_190) (fun _ _ => ⟨rfl, e2248, (by decide : 21 + 0 ≤ _), (by decide : 63 + 0 ≤ _)⟩)
      dsimp only [Pt.U, Pt.locs, Pt.cells, Pt.slots] at X2251 l2251 y2251 z2251 st2251 hQ2251
      replace l2251 := l2251.symm
      replace y2251 : 21 = k2251 := y2251.symm
      replace z2251 : 63 = n2251 := z2251.symm
      subst l2251 y2251 z2251
      obtain ⟨rfl, M2251, Kc2251, O2251, J2251_0, J2251_1, J2251_2, J2251_3, J2251_4, J2251_5, J2251_6, J2251_7, J2251_8, J2251_9⟩ := hQ2251
      obtain ⟨h2251, e2251⟩ : ∃ z, T2251.heap = z := ⟨_, rfl⟩
      rw [e2251] at Kc2251 O2251 J2251_0 J2251_1 J2251_2 J2251_3 J2251_4 J2251_5 J2251_6 J2251_7 J2251_8
      have N2251 := Fr.app N2248 M2251
      have K2251 : Keep h0 h2251 [] := K2239.trans Kc2251 (own_all3 (Or.inr sz_b1963) (Or.inr sz_b2137_1970) (Or.inr sz_na_2239))
      have pre2252 : ∀ t, Steps p.tables e below (T2251.setTop (mkF m 193 #[iv p0, iv p1, iv p2, iv p3, iv (2 : Int32), iv ln, rv r_1920, rv r_1923, iv s0, rv r_1930, rv r_1935, iv s1, rv r_1944, rv r_1951, iv s2, rv b1963, iv (1 : Int32), iv (1 : Int32)] [])) t → Steps p.tables e below (s₁.setTop (entryFrame m #[(.int p0), (.int p1), (.int p2), (.int p3)] maxLocals)) t := fun t kt => pre2250 _ (st2251.trans kt)
      have XF2253 : Ext h1951 h2251 := own_ext_keep XF2241 Kc2251 (own_all3 zF_b1963 zF_b2137_1970 zF_na_2239)
      rcases own_sync p1 l2 with ⟨hs2254a, hs2254b⟩ | ⟨hs2254a, hs2254b⟩
      · rw [← hs1] at hs2254a
        have F2255 : Fld Z h2251 b1963 "com/example/homethread/homethread/cli/ScenarioReport" "differs" "Z" (.int (1 : Int32)) := own_fldcast J2251_2 (own_dif0 hs2254b)
        have pre2256 : ∀ t, Steps p.tables e below (T2251.setTop (mkF m 217 #[iv p0, iv p1, iv p2, iv p3, iv (2 : Int32), iv ln, rv r_1920, rv r_1923, iv s0, rv r_1930, rv r_1935, iv s1, rv r_1944, rv r_1951, iv s2, rv b1963, iv (1 : Int32), iv (1 : Int32)] [(.ref b1963)])) t → Steps p.tables e below (s₁.setTop (entryFrame m #[(.int p0), (.int p1), (.int p2), (.int p3)] maxLocals)) t := fun t kt => by
          refine pre2252 _ ?_
          show Steps p.tables e below (T2251.setTop (mkF m 193 #[iv p0, iv p1, iv p2, iv p3, iv (2 : Int32), iv ln, rv r_1920, rv r_1923, iv s0, rv r_1930, rv r_1935, iv s1, rv r_1944, rv r_1951, iv s2, rv b1963, iv (1 : Int32), iv (1 : Int32)] [])) _
          refine XS.iload X2251.here hx rfl (hb hby at_193) rfl ?_
          refine XS.ifYes X2251.here hx rfl (pc0 := 195) (pc' := 203) rfl (hb hby at_195) rfl (XT.i0_ne_t (by decide)) (by decide) (by decide) ?_
          refine XS.iconst X2251.here hx rfl (hb hby at_203) ?_
          refine XS.goto X2251.here hx rfl (pc0 := 204) (pc' := 208) rfl (hb hby at_204) (by decide) (by decide) ?_
          refine XS.istore X2251.here hx rfl (hb hby at_208) rfl (l' := #[iv p0, iv p1, iv p2, iv p3, iv (2 : Int32), iv ln, rv r_1920, rv r_1923, iv s0, rv r_1930, rv r_1935, iv s1, rv r_1944, rv r_1951, iv s2, rv b1963, iv (1 : Int32), iv (1 : Int32)]) rfl ?_
          refine XS.iload X2251.here hx rfl (hb hby at_210) rfl ?_
          refine XS.ifNo X2251.here hx rfl (hb hby at_212) rfl (XT.i0_eq_f (by decide)) ?_
          refine XS.aload X2251.here hx rfl (hb hby at_215) rfl rfl ?_
          exact kt
        obtain ⟨cq2257, kq2257, q2257a, q2257b, q2257c⟩ := isOf hZ e2251 J2251_0
        obtain ⟨_, _, ⟨T2257, L2257, k2257, n2257⟩, -, X2257, ⟨Lc2257, hQ2257, l2257, y2257, z2257⟩, st2257⟩ := X2251.virtualBack hx (y := (⟨"com/example/homethread/homethread/cli/ScenarioReport", "exitStatus", "()I"⟩ : MethodName)) (z := (⟨"com/example/homethread/homethread/cli/ScenarioReport", "exitStatus", "()I"⟩ : MethodName)) hown (mvT hZ (W 82 rfl)) (mvT hZ (W 83 rfl)) (notFace_of_selects (args := #[]) (mvT hZ (W 85 rfl))) (mvT hZ (W 85 rfl)) (mvT hZ (W 84 rfl)) (by decide) (backOf (W := 0) (rm_exitStatus17_1 l Z a0 hw [] b1963 h2251 n0 O2251 F2255) hZ (W 86 rfl) (W 51 rfl) (by decide) (by decide)) q2257a q2257c (g := (mkF m 217 #[iv p0, iv p1, iv p2, iv p3, iv (2 : Int32), iv ln, rv r_1920, rv r_1923, iv s0, rv r_1930, rv r_1935, iv s1, rv r_1944, rv r_1951, iv s2, rv b1963, iv (1 : Int32), iv (1 : Int32)] [(.ref b1963)])) rfl (by rw [hml]; rfl) (Steps.refl _) (argsL := []) (rest := []) (lenOf pd_50 rfl) rfl (by show 2 * 0 + _ ≤ _; exact Nat.le_of_eq rfl) (hb hby at_217) (fun _ _ => ⟨rfl, e2251, (by decide : 21 + 0 ≤ _), (by decide : 63 + 0 ≤ _)⟩)
        dsimp only [Pt.U, Pt.locs, Pt.cells, Pt.slots] at X2257 l2257 y2257 z2257 st2257 hQ2257
        replace l2257 := l2257.symm
        replace y2257 : 21 = k2257 := y2257.symm
        replace z2257 : 63 = n2257 := z2257.symm
        subst l2257 y2257 z2257
        obtain ⟨rfl, M2257, e2257⟩ := hQ2257
        have N2257 := Fr.app N2251 M2257
        have pre2258 : ∀ t, Steps p.tables e below (T2257.setTop (mkF m 220 #[iv p0, iv p1, iv p2, iv p3, iv (2 : Int32), iv ln, rv r_1920, rv r_1923, iv s0, rv r_1930, rv r_1935, iv s1, rv r_1944, rv r_1951, iv s2, rv b1963, iv (1 : Int32), iv (1 : Int32)] [(.int (1 : Int32))])) t → Steps p.tables e below (s₁.setTop (entryFrame m #[(.int p0), (.int p1), (.int p2), (.int p3)] maxLocals)) t := fun t kt => pre2256 _ (st2257.trans kt)
        have pre2259 : ∀ t, Steps p.tables e below (T2257.setTop (mkF m 222 #[iv p0, iv p1, iv p2, iv p3, iv (2 : Int32), iv ln, rv r_1920, rv r_1923, iv s0, rv r_1930, rv r_1935, iv s1, rv r_1944, rv r_1951, iv s2, rv b1963, iv (1 : Int32), iv (1 : Int32)] [(.int (1 : Int32)), (.int (1 : Int32))])) t → Steps p.tables e below (s₁.setTop (entryFrame m #[(.int p0), (.int p1), (.int p2), (.int p3)] maxLocals)) t := fun t kt => by
          refine pre2258 _ ?_
          show Steps p.tables e below (T2257.setTop (mkF m 220 #[iv p0, iv p1, iv p2, iv p3, iv (2 : Int32), iv ln, rv r_1920, rv r_1923, iv s0, rv r_1930, rv r_1935, iv s1, rv r_1944, rv r_1951, iv s2, rv b1963, iv (1 : Int32), iv (1 : Int32)] [(.int (1 : Int32))])) _
          refine XS.iload X2257.here hx rfl (hb hby at_220) rfl ?_
          exact kt
        obtain ⟨_, _, ⟨T2260, L2260, k2260, n2260⟩, -, X2260, ⟨Lc2260, hQ2260, l2260, y2260, z2260⟩, st2260⟩ := Jvm.LawKit.callS X2257 hx (y := (⟨"com/example/homethread/homethread/cli/ScenarioReportExitStatusPinLaw", "want", "(Z)I"⟩ : MethodName)) hown (mvT hZ (W 139 rfl)) (mvT hZ (W 140 rfl)) (mvT hZ (W 2 rfl)) (mvT hZ (W 141 rfl)) (by decide) (backOf (W := 1) (rm_want26_1 l Z a0 hw [] h2251 n0 O2251) hZ (W 141 rfl) (W 2 rfl) (by decide) (by decide)) (g := (mkF m 222 #[iv p0, iv p1, iv p2, iv p3, iv (2 : Int32), iv ln, rv r_1920, rv r_1923, iv s0, rv r_1930, rv r_1935, iv s1, rv r_1944, rv r_1951, iv s2, rv b1963, iv (1 : Int32), iv (1 : Int32)] [(.int (1 : Int32)), (.int (1 : Int32))])) rfl (by rw [hml]; rfl) (argsL := [(.int (1 : Int32))]) (rest := [(.int (1 : Int32))]) (lenOf pd_52 rfl) rfl (by show 2 * 0 + _ ≤ _; exact Nat.le_of_eq rfl) (hb hby at_222) (fun _ _ => ⟨rfl, e2257, (by decide : 21 + 0 ≤ _), (by decide : 63 + 0 ≤ _)⟩)
        dsimp only [Pt.U, Pt.locs, Pt.cells, Pt.slots] at X2260 l2260 y2260 z2260 st2260 hQ2260
        replace l2260 := l2260.symm
        replace y2260 : 21 = k2260 := y2260.symm
        replace z2260 : 63 = n2260 := z2260.symm
        subst l2260 y2260 z2260
        obtain ⟨rfl, M2260, e2260⟩ := hQ2260
        have N2260 := Fr.app N2257 M2260
        have pre2261 : ∀ t, Steps p.tables e below (T2260.setTop (mkF m 225 #[iv p0, iv p1, iv p2, iv p3, iv (2 : Int32), iv ln, rv r_1920, rv r_1923, iv s0, rv r_1930, rv r_1935, iv s1, rv r_1944, rv r_1951, iv s2, rv b1963, iv (1 : Int32), iv (1 : Int32)] [(.int (1 : Int32)), (.int (1 : Int32))])) t → Steps p.tables e below (s₁.setTop (entryFrame m #[(.int p0), (.int p1), (.int p2), (.int p3)] maxLocals)) t := fun t kt => pre2259 _ (st2260 _ kt)
        have pre2262 : ∀ t, Steps p.tables e below (T2260.setTop (mkF m 299 #[iv p0, iv p1, iv p2, iv p3, iv (2 : Int32), iv ln, rv r_1920, rv r_1923, iv s0, rv r_1930, rv r_1935, iv s1, rv r_1944, rv r_1951, iv s2, rv b1963, iv (1 : Int32), iv (1 : Int32)] [(.ref b1963)])) t → Steps p.tables e below (s₁.setTop (entryFrame m #[(.int p0), (.int p1), (.int p2), (.int p3)] maxLocals)) t := fun t kt => by
          refine pre2261 _ ?_
          show Steps p.tables e below (T2260.setTop (mkF m 225 #[iv p0, iv p1, iv p2, iv p3, iv (2 : Int32), iv ln, rv r_1920, rv r_1923, iv s0, rv r_1930, rv r_1935, iv s1, rv r_1944, rv r_1951, iv s2, rv b1963, iv (1 : Int32), iv (1 : Int32)] [(.int (1 : Int32)), (.int (1 : Int32))])) _
          refine XS.icmpNo X2260.here hx rfl (hb hby at_225) rfl (XT.ii_ne_f (by decide)) ?_
          refine XS.iconst X2260.here hx rfl (hb hby at_228) ?_
          refine XS.goto X2260.here hx rfl (pc0 := 229) (pc' := 233) rfl (hb hby at_229) (by decide) (by decide) ?_
          refine XS.istore X2260.here hx rfl (hb hby at_233) rfl (l' := #[iv p0, iv p1, iv p2, iv p3, iv (2 : Int32), iv ln, rv r_1920, rv r_1923, iv s0, rv r_1930, rv r_1935, iv s1, rv r_1944, rv r_1951, iv s2, rv b1963, iv (1 : Int32), iv (1 : Int32)]) rfl ?_
          refine XS.iload X2260.here hx rfl (hb hby at_235) rfl ?_
          refine XS.iconst X2260.here hx rfl (hb hby at_237) ?_
          refine XS.icmpYes X2260.here hx rfl (pc0 := 238) (pc' := 292) rfl (hb hby at_238) rfl (XT.ii_lt_t (by decide)) (by decide) (by decide) ?_
          refine XS.iload X2260.here hx rfl (hb hby at_292) rfl ?_
          show Steps p.tables e below (T2260.setTop (mkF m 294 #[iv p0, iv p1, iv p2, iv p3, iv (2 : Int32), iv ln, rv r_1920, rv r_1923, iv s0, rv r_1930, rv r_1935, iv s1, rv r_1944, rv r_1951, iv s2, rv b1963, iv (1 : Int32), iv (1 : Int32)] [(.int (1 : Int32))])) _
          refine XS.ifNo X2260.here hx rfl (hb hby at_294) rfl (XT.i0_eq_f (by decide)) ?_
          refine XS.aload X2260.here hx rfl (hb hby at_297) rfl rfl ?_
          exact kt
        obtain ⟨cq2263, kq2263, q2263a, q2263b, q2263c⟩ := isOf hZ e2260 J2251_0
        obtain ⟨_, _, ⟨T2263, L2263, k2263, n2263⟩, -, X2263, ⟨Lc2263, hQ2263, l2263, y2263, z2263⟩, st2263⟩ := X2260.virtualBack hx (y := (⟨"com/example/homethread/homethread/cli/ScenarioReport", "exitStatus", "()I"⟩ : MethodName)) (z := (⟨"com/example/homethread/homethread/cli/ScenarioReport", "exitStatus", "()I"⟩ : MethodName)) hown (mvT hZ (W 82 rfl)) (mvT hZ (W 83 rfl)) (notFace_of_selects (args := #[]) (mvT hZ (W 85 rfl))) (mvT hZ (W 85 rfl)) (mvT hZ (W 84 rfl)) (by decide) (backOf (W := 0) (rm_exitStatus17_1 l Z a0 hw [] b1963 h2251 n0 O2251 F2255) hZ (W 86 rfl) (W 51 rfl) (by decide) (by decide)) q2263a q2263c (g := (mkF m 299 #[iv p0, iv p1, iv p2, iv p3, iv (2 : Int32), iv ln, rv r_1920, rv r_1923, iv s0, rv r_1930, rv r_1935, iv s1, rv r_1944, rv r_1951, iv s2, rv b1963, iv (1 : Int32), iv (1 : Int32)] [(.ref b1963)])) rfl (by rw [hml]; rfl) (Steps.refl _) (argsL := []) (rest := []) (lenOf pd_50 rfl) rfl (by show 2 * 0 + _ ≤ _; exact Nat.le_of_eq rfl) (hb hby at_299) (fun _ _ => ⟨rfl, e2260, (by decide : 21 + 0 ≤ _), (by decide : 63 + 0 ≤ _)⟩)
        dsimp only [Pt.U, Pt.locs, Pt.cells, Pt.slots] at X2263 l2263 y2263 z2263 st2263 hQ2263
        replace l2263 := l2263.symm
        replace y2263 : 21 = k2263 := y2263.symm
        replace z2263 : 63 = n2263 := z2263.symm
        subst l2263 y2263 z2263
        obtain ⟨rfl, M2263, e2263⟩ := hQ2263
        have N2263 := Fr.app N2260 M2263
        have pre2264 : ∀ t, Steps p.tables e below (T2263.setTop (mkF m 302 #[iv p0, iv p1, iv p2, iv p3, iv (2 : Int32), iv ln, rv r_1920, rv r_1923, iv s0, rv r_1930, rv r_1935, iv s1, rv r_1944, rv r_1951, iv s2, rv b1963, iv (1 : Int32), iv (1 : Int32)] [(.int (1 : Int32))])) t → Steps p.tables e below (s₁.setTop (entryFrame m #[(.int p0), (.int p1), (.int p2), (.int p3)] maxLocals)) t := fun t kt => pre2262 _ (st2263.trans kt)
        have pre2265 : ∀ t, Steps p.tables e below (T2263.setTop (mkF m 304 #[iv p0, iv p1, iv p2, iv p3, iv (2 : Int32), iv ln, rv r_1920, rv r_1923, iv s0, rv r_1930, rv r_1935, iv s1, rv r_1944, rv r_1951, iv s2, rv b1963, iv (1 : Int32), iv (1 : Int32)] [(.int (1 : Int32)), (.int (1 : Int32))])) t → Steps p.tables e below (s₁.setTop (entryFrame m #[(.int p0), (.int p1), (.int p2), (.int p3)] maxLocals)) t := fun t kt => by
          refine pre2264 _ ?_
          show Steps p.tables e below (T2263.setTop (mkF m 302 #[iv p0, iv p1, iv p2, iv p3, iv (2 : Int32), iv ln, rv r_1920, rv r_1923, iv s0, rv r_1930, rv r_1935, iv s1, rv r_1944, rv r_1951, iv s2, rv b1963, iv (1 : Int32), iv (1 : Int32)] [(.int (1 : Int32))])) _
          refine XS.iload X2263.here hx rfl (hb hby at_302) rfl ?_
          exact kt
        obtain ⟨_, _, ⟨T2266, L2266, k2266, n2266⟩, -, X2266, ⟨Lc2266, hQ2266, l2266, y2266, z2266⟩, st2266⟩ := Jvm.LawKit.callS X2263 hx (y := (⟨"com/example/homethread/homethread/cli/ScenarioReportExitStatusPinLaw", "want", "(Z)I"⟩ : MethodName)) hown (mvT hZ (W 139 rfl)) (mvT hZ (W 140 rfl)) (mvT hZ (W 2 rfl)) (mvT hZ (W 141 rfl)) (by decide) (backOf (W := 1) (rm_want26_1 l Z a0 hw [] h2251 n0 O2251) hZ (W 141 rfl) (W 2 rfl) (by decide) (by decide)) (g := (mkF m 304 #[iv p0, iv p1, iv p2, iv p3, iv (2 : Int32), iv ln, rv r_1920, rv r_1923, iv s0, rv r_1930, rv r_1935, iv s1, rv r_1944, rv r_1951, iv s2, rv b1963, iv (1 : Int32), iv (1 : Int32)] [(.int (1 : Int32)), (.int (1 : Int32))])) rfl (by rw [hml]; rfl) (argsL := [(.int (1 : Int32))]) (rest := [(.int (1 : Int32))]) (lenOf pd_52 rfl) rfl (by show 2 * 0 + _ ≤ _; exact Nat.le_of_eq rfl) (hb hby at_304) (fun _ _ => ⟨rfl, e2263, (by decide : 21 + 0 ≤ _), (by decide : 63 + 0 ≤ _)⟩)
        dsimp only [Pt.U, Pt.locs, Pt.cells, Pt.slots] at X2266 l2266 y2266 z2266 st2266 hQ2266
        replace l2266 := l2266.symm
        replace y2266 : 21 = k2266 := y2266.symm
        replace z2266 : 63 = n2266 := z2266.symm
        subst l2266 y2266 z2266
        obtain ⟨rfl, M2266, e2266⟩ := hQ2266
        have N2266 := Fr.app N2263 M2266
        have pre2267 : ∀ t, Steps p.tables e below (T2266.setTop (mkF m 307 #[iv p0, iv p1, iv p2, iv p3, iv (2 : Int32), iv ln, rv r_1920, rv r_1923, iv s0, rv r_1930, rv r_1935, iv s1, rv r_1944, rv r_1951, iv s2, rv b1963, iv (1 : Int32), iv (1 : Int32)] [(.int (1 : Int32)), (.int (1 : Int32))])) t → Steps p.tables e below (s₁.setTop (entryFrame m #[(.int p0), (.int p1), (.int p2), (.int p3)] maxLocals)) t := fun t kt => pre2265 _ (st2266 _ kt)
        have pre2268 : ∀ t, Steps p.tables e below (T2266.setTop (mkF m 319 #[iv p0, iv p1, iv p2, iv p3, iv (2 : Int32), iv ln, rv r_1920, rv r_1923, iv s0, rv r_1930, rv r_1935, iv s1, rv r_1944, rv r_1951, iv s2, rv b1963, iv (1 : Int32), iv (1 : Int32)] [(.int (1 : Int32))])) t → Steps p.tables e below (s₁.setTop (entryFrame m #[(.int p0), (.int p1), (.int p2), (.int p3)] maxLocals)) t := fun t kt => by
          refine pre2267 _ ?_
          show Steps p.tables e below (T2266.setTop (mkF m 307 #[iv p0, iv p1, iv p2, iv p3, iv (2 : Int32), iv ln, rv r_1920, rv r_1923, iv s0, rv r_1930, rv r_1935, iv s1, rv r_1944, rv r_1951, iv s2, rv b1963, iv (1 : Int32), iv (1 : Int32)] [(.int (1 : Int32)), (.int (1 : Int32))])) _
          refine XS.icmpNo X2266.here hx rfl (hb hby at_307) rfl (XT.ii_ne_f (by decide)) ?_
          refine XS.iconst X2266.here hx rfl (hb hby at_310) ?_
          refine XS.goto X2266.here hx rfl (pc0 := 311) (pc' := 315) rfl (hb hby at_311) (by decide) (by decide) ?_
          refine XS.istore X2266.here hx rfl (hb hby at_315) rfl (l' := #[iv p0, iv p1, iv p2, iv p3, iv (2 : Int32), iv ln, rv r_1920, rv r_1923, iv s0, rv r_1930, rv r_1935, iv s1, rv r_1944, rv r_1951, iv s2, rv b1963, iv (1 : Int32), iv (1 : Int32)]) rfl ?_
          refine XS.iload X2266.here hx rfl (hb hby at_317) rfl ?_
          exact kt
        obtain ⟨fs, hr, hrun, hended, hW, hsame⟩ := X2266.leave (v := some (.int (1 : Int32))) (fun h => by rw [Bd.returns] at h; cases h)
        refine ⟨_, _, pre2268 _ (retN X2266 hx (t := .boolean) Bd.returns (by simp) (hb hby at_319) hr), hrun, hended, _, _, rfl, ?_, ⟨_, rfl⟩, hW, hsame.mono (by decide) (by decide)⟩
        show Q_law Z p0 p1 p2 p3 cz ad kd h0 n0 _ T2266.heap _
        rw [e2266]
        exact ⟨rfl, N2266⟩
      · rw [← hs1] at hs2254a
        have F2269 : Fld Z h2251 b1963 "com/example/homethread/homethread/cli/ScenarioReport" "differs" "Z" (.int (1 : Int32)) := own_fldcast J2251_2 (own_dif1 hs2254b)
        have pre2270 : ∀ t, Steps p.tables e below (T2251.setTop (mkF m 217 #[iv p0, iv p1, iv p2, iv p3, iv (2 : Int32), iv ln, rv r_1920, rv r_1923, iv s0, rv r_1930, rv r_1935, iv s1, rv r_1944, rv r_1951, iv s2, rv b1963, iv (1 : Int32), iv (1 : Int32)] [(.ref b1963)])) t → Steps p.tables e below (s₁.setTop (entryFrame m #[(.int p0), (.int p1), (.int p2), (.int p3)] maxLocals)) t := fun t kt => by
          refine pre2252 _ ?_
          show Steps p.tables e below (T2251.setTop (mkF m 193 #[iv p0, iv p1, iv p2, iv p3, iv (2 : Int32), iv ln, rv r_1920, rv r_1923, iv s0, rv r_1930, rv r_1935, iv s1, rv r_1944, rv r_1951, iv s2, rv b1963, iv (1 : Int32), iv (1 : Int32)] [])) _
          refine XS.iload X2251.here hx rfl (hb hby at_193) rfl ?_
          refine XS.ifYes X2251.here hx rfl (pc0 := 195) (pc' := 203) rfl (hb hby at_195) rfl (XT.i0_ne_t (by decide)) (by decide) (by decide) ?_
          refine XS.iconst X2251.here hx rfl (hb hby at_203) ?_
          refine XS.goto X2251.here hx rfl (pc0 := 204) (pc' := 208) rfl (hb hby at_204) (by decide) (by decide) ?_
          refine XS.istore X2251.here hx rfl (hb hby at_208) rfl (l' := #[iv p0, iv p1, iv p2, iv p3, iv (2 : Int32), iv ln, rv r_1920, rv r_1923, iv s0, rv r_1930, rv r_1935, iv s1, rv r_1944, rv r_1951, iv s2, rv b1963, iv (1 : Int32), iv (1 : Int32)]) rfl ?_
          refine XS.iload X2251.here hx rfl (hb hby at_210) rfl ?_
          refine XS.ifNo X2251.here hx rfl (hb hby at_212) rfl (XT.i0_eq_f (by decide)) ?_
          refine XS.aload X2251.here hx rfl (hb hby at_215) rfl rfl ?_
          exact kt
        obtain ⟨cq2271, kq2271, q2271a, q2271b, q2271c⟩ := isOf hZ e2251 J2251_0
        obtain ⟨_, _, ⟨T2271, L2271, k2271, n2271⟩, -, X2271, ⟨Lc2271, hQ2271, l2271, y2271, z2271⟩, st2271⟩ := X2251.virtualBack hx (y := (⟨"com/example/homethread/homethread/cli/ScenarioReport", "exitStatus", "()I"⟩ : MethodName)) (z := (⟨"com/example/homethread/homethread/cli/ScenarioReport", "exitStatus", "()I"⟩ : MethodName)) hown (mvT hZ (W 82 rfl)) (mvT hZ (W 83 rfl)) (notFace_of_selects (args := #[]) (mvT hZ (W 85 rfl))) (mvT hZ (W 85 rfl)) (mvT hZ (W 84 rfl)) (by decide) (backOf (W := 0) (rm_exitStatus17_1 l Z a0 hw [] b1963 h2251 n0 O2251 F2269) hZ (W 86 rfl) (W 51 rfl) (by decide) (by decide)) q2271a q2271c (g := (mkF m 217 #[iv p0, iv p1, iv p2, iv p3, iv (2 : Int32), iv ln, rv r_1920, rv r_1923, iv s0, rv r_1930, rv r_1935, iv s1, rv r_1944, rv r_1951, iv s2, rv b1963, iv (1 : Int32), iv (1 : Int32)] [(.ref b1963)])) rfl (by rw [hml]; rfl) (Steps.refl _) (argsL := []) (rest := []) (lenOf pd_50 rfl) rfl (by show 2 * 0 + _ ≤ _; exact Nat.le_of_eq rfl) (hb hby at_217) (fun _ _ => ⟨rfl, e2251, (by decide : 21 + 0 ≤ _), (by decide : 63 + 0 ≤ _)⟩)
        dsimp only [Pt.U, Pt.locs, Pt.cells, Pt.slots] at X2271 l2271 y2271 z2271 st2271 hQ2271
        replace l2271 := l2271.symm
        replace y2271 : 21 = k2271 := y2271.symm
        replace z2271 : 63 = n2271 := z2271.symm
        subst l2271 y2271 z2271
        obtain ⟨rfl, M2271, e2271⟩ := hQ2271
        have N2271 := Fr.app N2251 M2271
        have pre2272 : ∀ t, Steps p.tables e below (T2271.setTop (mkF m 220 #[iv p0, iv p1, iv p2, iv p3, iv (2 : Int32), iv ln, rv r_1920, rv r_1923, iv s0, rv r_1930, rv r_1935, iv s1, rv r_1944, rv r_1951, iv s2, rv b1963, iv (1 : Int32), iv (1 : Int32)] [(.int (1 : Int32))])) t → Steps p.tables e below (s₁.setTop (entryFrame m #[(.int p0), (.int p1), (.int p2), (.int p3)] maxLocals)) t := fun t kt => pre2270 _ (st2271.trans kt)
        have pre2273 : ∀ t, Steps p.tables e below (T2271.setTop (mkF m 222 #[iv p0, iv p1, iv p2, iv p3, iv (2 : Int32), iv ln, rv r_1920, rv r_1923, iv s0, rv r_1930, rv r_1935, iv s1, rv r_1944, rv r_1951, iv s2, rv b1963, iv (1 : Int32), iv (1 : Int32)] [(.int (1 : Int32)), (.int (1 : Int32))])) t → Steps p.tables e below (s₁.setTop (entryFrame m #[(.int p0), (.int p1), (.int p2), (.int p3)] maxLocals)) t := fun t kt => by
          refine pre2272 _ ?_
          show Steps p.tables e below (T2271.setTop (mkF m 220 #[iv p0, iv p1, iv p2, iv p3, iv (2 : Int32), iv ln, rv r_1920, rv r_1923, iv s0, rv r_1930, rv r_1935, iv s1, rv r_1944, rv r_1951, iv s2, rv b1963, iv (1 : Int32), iv (1 : Int32)] [(.int (1 : Int32))])) _
          refine XS.iload X2271.here hx rfl (hb hby at_220) rfl ?_
          exact kt
        obtain ⟨_, _, ⟨T2274, L2274, k2274, n2274⟩, -, X2274, ⟨Lc2274, hQ2274, l2274, y2274, z2274⟩, st2274⟩ := Jvm.LawKit.callS X2271 hx (y := (⟨"com/example/homethread/homethread/cli/ScenarioReportExitStatusPinLaw", "want", "(Z)I"⟩ : MethodName)) hown (mvT hZ (W 139 rfl)) (mvT hZ (W 140 rfl)) (mvT hZ (W 2 rfl)) (mvT hZ (W 141 rfl)) (by decide) (backOf (W := 1) (rm_want26_1 l Z a0 hw [] h2251 n0 O2251) hZ (W 141 rfl) (W 2 rfl) (by decide) (by decide)) (g := (mkF m 222 #[iv p0, iv p1, iv p2, iv p3, iv (2 : Int32), iv ln, rv r_1920, rv r_1923, iv s0, rv r_1930, rv r_1935, iv s1, rv r_1944, rv r_1951, iv s2, rv b1963, iv (1 : Int32), iv (1 : Int32)] [(.int (1 : Int32)), (.int (1 : Int32))])) rfl (by rw [hml]; rfl) (argsL := [(.int (1 : Int32))]) (rest := [(.int (1 : Int32))]) (lenOf pd_52 rfl) rfl (by show 2 * 0 + _ ≤ _; exact Nat.le_of_eq rfl) (hb hby at_222) (fun _ _ => ⟨rfl, e2271, (by decide : 21 + 0 ≤ _), (by decide : 63 + 0 ≤ _)⟩)
        dsimp only [Pt.U, Pt.locs, Pt.cells, Pt.slots] at X2274 l2274 y2274 z2274 st2274 hQ2274
        replace l2274 := l2274.symm
        replace y2274 : 21 = k2274 := y2274.symm
        replace z2274 : 63 = n2274 := z2274.symm
        subst l2274 y2274 z2274
        obtain ⟨rfl, M2274, e2274⟩ := hQ2274
        have N2274 := Fr.app N2271 M2274
        have pre2275 : ∀ t, Steps p.tables e below (T2274.setTop (mkF m 225 #[iv p0, iv p1, iv p2, iv p3, iv (2 : Int32), iv ln, rv r_1920, rv r_1923, iv s0, rv r_1930, rv r_1935, iv s1, rv r_1944, rv r_1951, iv s2, rv b1963, iv (1 : Int32), iv (1 : Int32)] [(.int (1 : Int32)), (.int (1 : Int32))])) t → Steps p.tables e below (s₁.setTop (entryFrame m #[(.int p0), (.int p1), (.int p2), (.int p3)] maxLocals)) t := fun t kt => pre2273 _ (st2274 _ kt)
        have pre2276 : ∀ t, Steps p.tables e below (T2274.setTop (mkF m 299 #[iv p0, iv p1, iv p2, iv p3, iv (2 : Int32), iv ln, rv r_1920, rv r_1923, iv s0, rv r_1930, rv r_1935, iv s1, rv r_1944, rv r_1951, iv s2, rv b1963, iv (1 : Int32), iv (1 : Int32)] [(.ref b1963)])) t → Steps p.tables e below (s₁.setTop (entryFrame m #[(.int p0), (.int p1), (.int p2), (.int p3)] maxLocals)) t := fun t kt => by
          refine pre2275 _ ?_
          show Steps p.tables e below (T2274.setTop (mkF m 225 #[iv p0, iv p1, iv p2, iv p3, iv (2 : Int32), iv ln, rv r_1920, rv r_1923, iv s0, rv r_1930, rv r_1935, iv s1, rv r_1944, rv r_1951, iv s2, rv b1963, iv (1 : Int32), iv (1 : Int32)] [(.int (1 : Int32)), (.int (1 : Int32))])) _
          refine XS.icmpNo X2274.here hx rfl (hb hby at_225) rfl (XT.ii_ne_f (by decide)) ?_
          refine XS.iconst X2274.here hx rfl (hb hby at_228) ?_
          refine XS.goto X2274.here hx rfl (pc0 := 229) (pc' := 233) rfl (hb hby at_229) (by decide) (by decide) ?_
          refine XS.istore X2274.here hx rfl (hb hby at_233) rfl (l' := #[iv p0, iv p1, iv p2, iv p3, iv (2 : Int32), iv ln, rv r_1920, rv r_1923, iv s0, rv r_1930, rv r_1935, iv s1, rv r_1944, rv r_1951, iv s2, rv b1963, iv (1 : Int32), iv (1 : Int32)]) rfl ?_
          refine XS.iload X2274.here hx rfl (hb hby at_235) rfl ?_
          refine XS.iconst X2274.here hx rfl (hb hby at_237) ?_
          refine XS.icmpYes X2274.here hx rfl (pc0 := 238) (pc' := 292) rfl (hb hby at_238) rfl (XT.ii_lt_t (by decide)) (by decide) (by decide) ?_
          refine XS.iload X2274.here hx rfl (hb hby at_292) rfl ?_
          show Steps p.tables e below (T2274.setTop (mkF m 294 #[iv p0, iv p1, iv p2, iv p3, iv (2 : Int32), iv ln, rv r_1920, rv r_1923, iv s0, rv r_1930, rv r_1935, iv s1, rv r_1944, rv r_1951, iv s2, rv b1963, iv (1 : Int32), iv (1 : Int32)] [(.int (1 : Int32))])) _
          refine XS.ifNo X2274.here hx rfl (hb hby at_294) rfl (XT.i0_eq_f (by decide)) ?_
          refine XS.aload X2274.here hx rfl (hb hby at_297) rfl rfl ?_
          exact kt
        obtain ⟨cq2277, kq2277, q2277a, q2277b, q2277c⟩ := isOf hZ e2274 J2251_0
        obtain ⟨_, _, ⟨T2277, L2277, k2277, n2277⟩, -, X2277, ⟨Lc2277, hQ2277, l2277, y2277, z2277⟩, st2277⟩ := X2274.virtualBack hx (y := (⟨"com/example/homethread/homethread/cli/ScenarioReport", "exitStatus", "()I"⟩ : MethodName)) (z := (⟨"com/example/homethread/homethread/cli/ScenarioReport", "exitStatus", "()I"⟩ : MethodName)) hown (mvT hZ (W 82 rfl)) (mvT hZ (W 83 rfl)) (notFace_of_selects (args := #[]) (mvT hZ (W 85 rfl))) (mvT hZ (W 85 rfl)) (mvT hZ (W 84 rfl)) (by decide) (backOf (W := 0) (rm_exitStatus17_1 l Z a0 hw [] b1963 h2251 n0 O2251 F2269) hZ (W 86 rfl) (W 51 rfl) (by decide) (by decide)) q2277a q2277c (g := (mkF m 299 #[iv p0, iv p1, iv p2, iv p3, iv (2 : Int32), iv ln, rv r_1920, rv r_1923, iv s0, rv r_1930, rv r_1935, iv s1, rv r_1944, rv r_1951, iv s2, rv b1963, iv (1 : Int32), iv (1 : Int32)] [(.ref b1963)])) rfl (by rw [hml]; rfl) (Steps.refl _) (argsL := []) (rest := []) (lenOf pd_50 rfl) rfl (by show 2 * 0 + _ ≤ _; exact Nat.le_of_eq rfl) (hb hby at_299) (fun _ _ => ⟨rfl, e2274, (by decide : 21 + 0 ≤ _), (by decide : 63 + 0 ≤ _)⟩)
        dsimp only [Pt.U, Pt.locs, Pt.cells, Pt.slots] at X2277 l2277 y2277 z2277 st2277 hQ2277
        replace l2277 := l2277.symm
        replace y2277 : 21 = k2277 := y2277.symm
        replace z2277 : 63 = n2277 := z2277.symm
        subst l2277 y2277 z2277
        obtain ⟨rfl, M2277, e2277⟩ := hQ2277
        have N2277 := Fr.app N2274 M2277
        have pre2278 : ∀ t, Steps p.tables e below (T2277.setTop (mkF m 302 #[iv p0, iv p1, iv p2, iv p3, iv (2 : Int32), iv ln, rv r_1920, rv r_1923, iv s0, rv r_1930, rv r_1935, iv s1, rv r_1944, rv r_1951, iv s2, rv b1963, iv (1 : Int32), iv (1 : Int32)] [(.int (1 : Int32))])) t → Steps p.tables e below (s₁.setTop (entryFrame m #[(.int p0), (.int p1), (.int p2), (.int p3)] maxLocals)) t := fun t kt => pre2276 _ (st2277.trans kt)
        have pre2279 : ∀ t, Steps p.tables e below (T2277.setTop (mkF m 304 #[iv p0, iv p1, iv p2, iv p3, iv (2 : Int32), iv ln, rv r_1920, rv r_1923, iv s0, rv r_1930, rv r_1935, iv s1, rv r_1944, rv r_1951, iv s2, rv b1963, iv (1 : Int32), iv (1 : Int32)] [(.int (1 : Int32)), (.int (1 : Int32))])) t → Steps p.tables e below (s₁.setTop (entryFrame m #[(.int p0), (.int p1), (.int p2), (.int p3)] maxLocals)) t := fun t kt => by
          refine pre2278 _ ?_
          show Steps p.tables e below (T2277.setTop (mkF m 302 #[iv p0, iv p1, iv p2, iv p3, iv (2 : Int32), iv ln, rv r_1920, rv r_1923, iv s0, rv r_1930, rv r_1935, iv s1, rv r_1944, rv r_1951, iv s2, rv b1963, iv (1 : Int32), iv (1 : Int32)] [(.int (1 : Int32))])) _
          refine XS.iload X2277.here hx rfl (hb hby at_302) rfl ?_
          exact kt
        obtain ⟨_, _, ⟨T2280, L2280, k2280, n2280⟩, -, X2280, ⟨Lc2280, hQ2280, l2280, y2280, z2280⟩, st2280⟩ := Jvm.LawKit.callS X2277 hx (y := (⟨"com/example/homethread/homethread/cli/ScenarioReportExitStatusPinLaw", "want", "(Z)I"⟩ : MethodName)) hown (mvT hZ (W 139 rfl)) (mvT hZ (W 140 rfl)) (mvT hZ (W 2 rfl)) (mvT hZ (W 141 rfl)) (by decide) (backOf (W := 1) (rm_want26_1 l Z a0 hw [] h2251 n0 O2251) hZ (W 141 rfl) (W 2 rfl) (by decide) (by decide)) (g := (mkF m 304 #[iv p0, iv p1, iv p2, iv p3, iv (2 : Int32), iv ln, rv r_1920, rv r_1923, iv s0, rv r_1930, rv r_1935, iv s1, rv r_1944, rv r_1951, iv s2, rv b1963, iv (1 : Int32), iv (1 : Int32)] [(.int (1 : Int32)), (.int (1 : Int32))])) rfl (by rw [hml]; rfl) (argsL := [(.int (1 : Int32))]) (rest := [(.int (1 : Int32))]) (lenOf pd_52 rfl) rfl (by show 2 * 0 + _ ≤ _; exact Nat.le_of_eq rfl) (hb hby at_304) (fun _ _ => ⟨rfl, e2277, (by decide : 21 + 0 ≤ _), (by decide : 63 + 0 ≤ _)⟩)
        dsimp only [Pt.U, Pt.locs, Pt.cells, Pt.slots] at X2280 l2280 y2280 z2280 st2280 hQ2280
        replace l2280 := l2280.symm
        replace y2280 : 21 = k2280 := y2280.symm
        replace z2280 : 63 = n2280 := z2280.symm
        subst l2280 y2280 z2280
        obtain ⟨rfl, M2280, e2280⟩ := hQ2280
        have N2280 := Fr.app N2277 M2280
        have pre2281 : ∀ t, Steps p.tables e below (T2280.setTop (mkF m 307 #[iv p0, iv p1, iv p2, iv p3, iv (2 : Int32), iv ln, rv r_1920, rv r_1923, iv s0, rv r_1930, rv r_1935, iv s1, rv r_1944, rv r_1951, iv s2, rv b1963, iv (1 : Int32), iv (1 : Int32)] [(.int (1 : Int32)), (.int (1 : Int32))])) t → Steps p.tables e below (s₁.setTop (entryFrame m #[(.int p0), (.int p1), (.int p2), (.int p3)] maxLocals)) t := fun t kt => pre2279 _ (st2280 _ kt)
        have pre2282 : ∀ t, Steps p.tables e below (T2280.setTop (mkF m 319 #[iv p0, iv p1, iv p2, iv p3, iv (2 : Int32), iv ln, rv r_1920, rv r_1923, iv s0, rv r_1930, rv r_1935, iv s1, rv r_1944, rv r_1951, iv s2, rv b1963, iv (1 : Int32), iv (1 : Int32)] [(.int (1 : Int32))])) t → Steps p.tables e below (s₁.setTop (entryFrame m #[(.int p0), (.int p1), (.int p2), (.int p3)] maxLocals)) t := fun t kt => by
          refine pre2281 _ ?_
          show Steps p.tables e below (T2280.setTop (mkF m 307 #[iv p0, iv p1, iv p2, iv p3, iv (2 : Int32), iv ln, rv r_1920, rv r_1923, iv s0, rv r_1930, rv r_1935, iv s1, rv r_1944, rv r_1951, iv s2, rv b1963, iv (1 : Int32), iv (1 : Int32)] [(.int (1 : Int32)), (.int (1 : Int32))])) _
          refine XS.icmpNo X2280.here hx rfl (hb hby at_307) rfl (XT.ii_ne_f (by decide)) ?_
          refine XS.iconst X2280.here hx rfl (hb hby at_310) ?_
          refine XS.goto X2280.here hx rfl (pc0 := 311) (pc' := 315) rfl (hb hby at_311) (by decide) (by decide) ?_
          refine XS.istore X2280.here hx rfl (hb hby at_315) rfl (l' := #[iv p0, iv p1, iv p2, iv p3, iv (2 : Int32), iv ln, rv r_1920, rv r_1923, iv s0, rv r_1930, rv r_1935, iv s1, rv r_1944, rv r_1951, iv s2, rv b1963, iv (1 : Int32), iv (1 : Int32)]) rfl ?_
          refine XS.iload X2280.here hx rfl (hb hby at_317) rfl ?_
          exact kt
        obtain ⟨fs, hr, hrun, hended, hW, hsame⟩ := X2280.leave (v := some (.int (1 : Int32))) (fun h => by rw [Bd.returns] at h; cases h)
        refine ⟨_, _, pre2282 _ (retN X2280 hx (t := .boolean) Bd.returns (by simp) (hb hby at_319) hr), hrun, hended, _, _, rfl, ?_, ⟨_, rfl⟩, hW, hsame.mono (by decide) (by decide)⟩
        show Q_law Z p0 p1 p2 p3 cz ad kd h0 n0 _ T2280.heap _
        rw [e2280]
        exact ⟨rfl, N2280⟩
    · rw [← hs0] at hs2242a
      have F2283 : Fld Z h2239 b1963 "com/example/homethread/homethread/cli/ScenarioReport" "differs" "Z" (.int (0 : Int32)) := own_fldcast J2239_2 (own_dif1 hs2242b)
      have pre2284 : ∀ t, Steps p.tables e below (T2239.setTop (mkF m 160 #[iv p0, iv p1, iv p2, iv p3, iv (2 : Int32), iv ln, rv r_1920, rv r_1923, iv s0, rv r_1930, rv r_1935, iv s1, rv r_1944, rv r_1951, iv s2, rv b1963, iv (1 : Int32), iv (0 : Int32)] [(.ref b1963)])) t → Steps p.tables e below (s₁.setTop (entryFrame m #[(.int p0), (.int p1), (.int p2), (.int p3)] maxLocals)) t := fun t kt => by
        refine pre2240 _ ?_
        show Steps p.tables e below (T2239.setTop (mkF m 136 #[iv p0, iv p1, iv p2, iv p3, iv (2 : Int32), iv ln, rv r_1920, rv r_1923, iv s0, rv r_1930, rv r_1935, iv s1, rv r_1944, rv r_1951, iv s2, rv b1963, iv (1 : Int32), iv (0 : Int32)] [])) _
        refine XS.iload X2239.here hx rfl (hb hby at_136) rfl ?_
        refine XS.ifNo X2239.here hx rfl (hb hby at_138) rfl (XT.i0_ne_f (by decide)) ?_
        refine XS.iload X2239.here hx rfl (hb hby at_141) rfl ?_
        refine XS.ifYes X2239.here hx rfl (pc0 := 143) (pc' := 150) rfl (hb hby at_143) rfl (XT.i0_ne_t hs2242a) (by decide) (by decide) ?_
        refine XS.iconst X2239.here hx rfl (hb hby at_150) ?_
        refine XS.istore X2239.here hx rfl (hb hby at_151) rfl (l' := #[iv p0, iv p1, iv p2, iv p3, iv (2 : Int32), iv ln, rv r_1920, rv r_1923, iv s0, rv r_1930, rv r_1935, iv s1, rv r_1944, rv r_1951, iv s2, rv b1963, iv (1 : Int32), iv (0 : Int32)]) rfl ?_
        refine XS.iload X2239.here hx rfl (hb hby at_153) rfl ?_
        refine XS.ifNo X2239.here hx rfl (hb hby at_155) rfl (XT.i0_eq_f (by decide)) ?_
        show Steps p.tables e below (T2239.setTop (mkF m 158 #[iv p0, iv p1, iv p2, iv p3, iv (2 : Int32), iv ln, rv r_1920, rv r_1923, iv s0, rv r_1930, rv r_1935, iv s1, rv r_1944, rv r_1951, iv s2, rv b1963, iv (1 : Int32), iv (0 : Int32)] [])) _
        refine XS.aload X2239.here hx rfl (hb hby at_158) rfl rfl ?_
        exact kt
      obtain ⟨cq2285, kq2285, q2285a, q2285b, q2285c⟩ := isOf hZ e2239 J2239_0
      obtain ⟨_, _, ⟨T2285, L2285, k2285, n2285⟩, -, X2285, ⟨Lc2285, hQ2285, l2285, y2285, z2285⟩, st2285⟩ := X2239.virtualBack hx (y := (⟨"com/example/homethread/homethread/cli/ScenarioReport", "exitStatus", "()I"⟩ : MethodName)) (z := (⟨"com/example/homethread/homethread/cli/ScenarioReport", "exitStatus", "()I"⟩ : MethodName)) hown (mvT hZ (W 82 rfl)) (mvT hZ (W 83 rfl)) (notFace_of_selects (args := #[]) (mvT hZ (W 85 rfl))) (mvT hZ (W 85 rfl)) (mvT hZ (W 84 rfl)) (by decide) (backOf (W := 0) (rm_exitStatus17_0 l Z a0 hw [] b1963 h2239 n0 O2239 F2283) hZ (W 86 rfl) (W 51 rfl) (by decide) (by decide)) q2285a q2285c (g := (mkF m 160 #[iv p0, iv p1, iv p2, iv p3, iv (2 : Int32), iv ln, rv r_1920, rv r_1923, iv s0, rv r_1930, rv r_1935, iv s1, rv r_1944, rv r_1951, iv s2, rv b1963, iv (1 : Int32), iv (0 : Int32)] [(.ref b1963)])) rfl (by rw [hml]; rfl) (Steps.refl _) (argsL := []) (rest := []) (lenOf pd_50 rfl) rfl (by show 2 * 0 + _ ≤ _; exact Nat.le_of_eq rfl) (hb hby at_160) (fun _ _ => ⟨rfl, e2239, (by decide : 21 + 0 ≤ _), (by decide : 63 + 0 ≤ _)⟩)
      dsimp only [Pt.U, Pt.locs, Pt.cells, Pt.slots] at X2285 l2285 y2285 z2285 st2285 hQ2285
      replace l2285 := l2285.symm
      replace y2285 : 21 = k2285 := y2285.symm
      replace z2285 : 63 = n2285 := z2285.symm
      subst l2285 y2285 z2285
      obtain ⟨rfl, M2285, e2285⟩ := hQ2285
      have N2285 := Fr.app N2239 M2285
      have pre2286 : ∀ t, Steps p.tables e below (T2285.setTop (mkF m 163 #[iv p0, iv p1, iv p2, iv p3, iv (2 : Int32), iv ln, rv r_1920, rv r_1923, iv s0, rv r_1930, rv r_1935, iv s1, rv r_1944, rv r_1951, iv s2, rv b1963, iv (1 : Int32), iv (0 : Int32)] [(.int (0 : Int32))])) t → Steps p.tables e below (s₁.setTop (entryFrame m #[(.int p0), (.int p1), (.int p2), (.int p3)] maxLocals)) t := fun t kt => pre2284 _ (st2285.trans kt)
      have pre2287 : ∀ t, Steps p.tables e below (T2285.setTop (mkF m 165 #[iv p0, iv p1, iv p2, iv p3, iv (2 : Int32), iv ln, rv r_1920, rv r_1923, iv s0, rv r_1930, rv r_1935, iv s1, rv r_1944, rv r_1951, iv s2, rv b1963, iv (1 : Int32), iv (0 : Int32)] [(.int (0 : Int32)), (.int (0 : Int32))])) t → Steps p.tables e below (s₁.setTop (entryFrame m #[(.int p0), (.int p1), (.int p2), (.int p3)] maxLocals)) t := fun t kt => by
        refine pre2286 _ ?_
        show Steps p.tables e below (T2285.setTop (mkF m 163 #[iv p0, iv p1, iv p2, iv p3, iv (2 : Int32), iv ln, rv r_1920, rv r_1923, iv s0, rv r_1930, rv r_1935, iv s1, rv r_1944, rv r_1951, iv s2, rv b1963, iv (1 : Int32), iv (0 : Int32)] [(.int (0 : Int32))])) _
        refine XS.iload X2285.here hx rfl (hb hby at_163) rfl ?_
        exact kt
      obtain ⟨_, _, ⟨T2288, L2288, k2288, n2288⟩, -, X2288, ⟨Lc2288, hQ2288, l2288, y2288, z2288⟩, st2288⟩ := Jvm.LawKit.callS X2285 hx (y := (⟨"com/example/homethread/homethread/cli/ScenarioReportExitStatusPinLaw", "want", "(Z)I"⟩ : MethodName)) hown (mvT hZ (W 139 rfl)) (mvT hZ (W 140 rfl)) (mvT hZ (W 2 rfl)) (mvT hZ (W 141 rfl)) (by decide) (backOf (W := 1) (rm_want26_0 l Z a0 hw [] h2239 n0 O2239) hZ (W 141 rfl) (W 2 rfl) (by decide) (by decide)) (g := (mkF m 165 #[iv p0, iv p1, iv p2, iv p3, iv (2 : Int32), iv ln, rv r_1920, rv r_1923, iv s0, rv r_1930, rv r_1935, iv s1, rv r_1944, rv r_1951, iv s2, rv b1963, iv (1 : Int32), iv (0 : Int32)] [(.int (0 : Int32)), (.int (0 : Int32))])) rfl (by rw [hml]; rfl) (argsL := [(.int (0 : Int32))]) (rest := [(.int (0 : Int32))]) (lenOf pd_52 rfl) rfl (by show 2 * 0 + _ ≤ _; exact Nat.le_of_eq rfl) (hb hby at_165) (fun _ _ => ⟨rfl, e2285, (by decide : 21 + 0 ≤ _), (by decide : 63 + 0 ≤ _)⟩)
      dsimp only [Pt.U, Pt.locs, Pt.cells, Pt.slots] at X2288 l2288 y2288 z2288 st2288 hQ2288
      replace l2288 := l2288.symm
      replace y2288 : 21 = k2288 := y2288.symm
      replace z2288 : 63 = n2288 := z2288.symm
      subst l2288 y2288 z2288
      obtain ⟨rfl, M2288, e2288⟩ := hQ2288
      have N2288 := Fr.app N2285 M2288
      have pre2289 : ∀ t, Steps p.tables e below (T2288.setTop (mkF m 168 #[iv p0, iv p1, iv p2, iv p3, iv (2 : Int32), iv ln, rv r_1920, rv r_1923, iv s0, rv r_1930, rv r_1935, iv s1, rv r_1944, rv r_1951, iv s2, rv b1963, iv (1 : Int32), iv (0 : Int32)] [(.int (0 : Int32)), (.int (0 : Int32))])) t → Steps p.tables e below (s₁.setTop (entryFrame m #[(.int p0), (.int p1), (.int p2), (.int p3)] maxLocals)) t := fun t kt => pre2287 _ (st2288 _ kt)
      have pre2290 : ∀ t, Steps p.tables e below (T2288.setTop (mkF m 190 #[iv p0, iv p1, iv p2, iv p3, iv (2 : Int32), iv ln, rv r_1920, rv r_1923, iv s0, rv r_1930, rv r_1935, iv s1, rv r_1944, rv r_1951, iv s2, rv b1963, iv (1 : Int32), iv (0 : Int32)] [(.ref r_1935), (.ref r_1930), (.ref b1963)])) t → Steps p.tables e below (s₁.setTop (entryFrame m #[(.int p0), (.int p1), (.int p2), (.int p3)] maxLocals)) t := fun t kt => by
        refine pre2289 _ ?_
        show Steps p.tables e below (T2288.setTop (mkF m 168 #[iv p0, iv p1, iv p2, iv p3, iv (2 : Int32), iv ln, rv r_1920, rv r_1923, iv s0, rv r_1930, rv r_1935, iv s1, rv r_1944, rv r_1951, iv s2, rv b1963, iv (1 : Int32), iv (0 : Int32)] [(.int (0 : Int32)), (.int (0 : Int32))])) _
        refine XS.icmpNo X2288.here hx rfl (hb hby at_168) rfl (XT.ii_ne_f (by decide)) ?_
        refine XS.iconst X2288.here hx rfl (hb hby at_171) ?_
        refine XS.goto X2288.here hx rfl (pc0 := 172) (pc' := 176) rfl (hb hby at_172) (by decide) (by decide) ?_
        refine XS.istore X2288.here hx rfl (hb hby at_176) rfl (l' := #[iv p0, iv p1, iv p2, iv p3, iv (2 : Int32), iv ln, rv r_1920, rv r_1923, iv s0, rv r_1930, rv r_1935, iv s1, rv r_1944, rv r_1951, iv s2, rv b1963, iv (1 : Int32), iv (0 : Int32)]) rfl ?_
        refine XS.iload X2288.here hx rfl (hb hby at_178) rfl ?_
        refine XS.iconst X2288.here hx rfl (hb hby at_180) ?_
        refine XS.icmpNo X2288.here hx rfl (hb hby at_181) rfl (XT.ii_lt_f (by decide)) ?_
        refine XS.aload X2288.here hx rfl (hb hby at_184) rfl rfl ?_
        show Steps p.tables e below (T2288.setTop (mkF m 186 #[iv p0, iv p1, iv p2, iv p3, iv (2 : Int32), iv ln, rv r_1920, rv r_1923, iv s0, rv r_1930, rv r_1935, iv s1, rv r_1944, rv r_1951, iv s2, rv b1963, iv (1 : Int32), iv (0 : Int32)] [(.ref b1963)])) _
        refine XS.aload X2288.here hx rfl (hb hby at_186) rfl rfl ?_
        refine XS.aload X2288.here hx rfl (hb hby at_188) rfl rfl ?_
        exact kt
      obtain ⟨cq2291, kq2291, q2291a, q2291b, q2291c⟩ := isOf hZ e2288 J2239_0
      obtain ⟨_, _, ⟨T2291, L2291, k2291, n2291⟩, -, X2291, ⟨Lc2291, hQ2291, l2291, y2291, z2291⟩, st2291⟩ := X2288.virtualBack hx (y := (⟨"com/example/homethread/homethread/cli/ScenarioReport", "expectLine", "(Ljava/lang/String;Ljava/lang/String;)V"⟩ : MethodName)) (z := (⟨"com/example/homethread/homethread/cli/ScenarioReport", "expectLine", "(Ljava/lang/String;Ljava/lang/String;)V"⟩ : MethodName)) hown (mvT hZ (W 89 rfl)) (mvT hZ (W 90 rfl)) (notFace_of_selects (args := #[]) (mvT hZ (W 92 rfl))) (mvT hZ (W 92 rfl)) (mvT hZ (W 91 rfl)) (by decide) (backOf (W := 0) (rm_line1 l Z a0 hw [] b1963 r_1930 r_1935 cz ad kd b2137_1970 (((0 : Int32) + (1 : Int32))) ((0 : Int32)) ((l2 &&& (2 : Int32))) ((own_b ((p1 &&& (255 : Int32)) ^^^ (own_x0 p1)))) ((own_b ((((p1.toUInt32 >>> ((8 : Int32) &&& 31).toUInt32).toInt32) &&& (255 : Int32)) ^^^ (own_x1 p1)))) ((l2 &&& (1 : Int32))) ((own_b (p1 &&& (255 : Int32)))) ((own_b (((p1.toUInt32 >>> ((8 : Int32) &&& 31).toUInt32).toInt32) &&& (255 : Int32)))) na_2239 kna_2239 ((.ref r_1923)) h2239 n0 O2239 G0 G1 G2 G3 g_b1963 g_b2137_1970 g_na_2239 J2239_0 J2239_1 F2283 J2239_3 J2239_4 J2239_5 J2239_6 J2239_7 J2239_8 J2239_9 qz (fun q => ne_r_1930_r_1935 q.symm) (Or.inl rfl) ne_b1963_b2137_1970 ne_b1963_na_2239 ne_b2137_1970_na_2239 h1951 XF2241 F1956 F1955 zF_b1963 zF_b2137_1970 zF_na_2239) hZ (W 93 rfl) (W 51 rfl) (by decide) (by decide)) q2291a q2291c (g := (mkF m 190 #[iv p0, iv p1, iv p2, iv p3, iv (2 : Int32), iv ln, rv r_1920, rv r_1923, iv s0, rv r_1930, rv r_1935, iv s1, rv r_1944, rv r_1951, iv s2, rv b1963, iv (1 : Int32), iv (0 : Int32)] [(.ref r_1935), (.ref r_1930), (.ref b1963)])) rfl (by rw [hml]; rfl) (Steps.refl _) (argsL := [(.ref r_1930), (.ref r_1935)]) (rest := []) (lenOf pd_53 rfl) rfl (by show 2 * 0 + _ ≤ _; exact Nat.le_of_eq rfl) (hb hby at_190) (fun _ _ => ⟨rfl, e2288, (by decide : 21 + 0 ≤ _), (by decide : 63 + 0 ≤ _)⟩)
      dsimp only [Pt.U, Pt.locs, Pt.cells, Pt.slots] at X2291 l2291 y2291 z2291 st2291 hQ2291
      replace l2291 := l2291.symm
      replace y2291 : 21 = k2291 := y2291.symm
      replace z2291 : 63 = n2291 := z2291.symm
      subst l2291 y2291 z2291
      obtain ⟨rfl, M2291, Kc2291, O2291, J2291_0, J2291_1, J2291_2, J2291_3, J2291_4, J2291_5, J2291_6, J2291_7, J2291_8, J2291_9⟩ := hQ2291
      obtain ⟨h2291, e2291⟩ : ∃ z, T2291.heap = z := ⟨_, rfl⟩
      rw [e2291] at Kc2291 O2291 J2291_0 J2291_1 J2291_2 J2291_3 J2291_4 J2291_5 J2291_6 J2291_7 J2291_8
      have N2291 := Fr.app N2288 M2291
      have K2291 : Keep h0 h2291 [] := K2239.trans Kc2291 (own_all3 (Or.inr sz_b1963) (Or.inr sz_b2137_1970) (Or.inr sz_na_2239))
      have pre2292 : ∀ t, Steps p.tables e below (T2291.setTop (mkF m 193 #[iv p0, iv p1, iv p2, iv p3, iv (2 : Int32), iv ln, rv r_1920, rv r_1923, iv s0, rv r_1930, rv r_1935, iv s1, rv r_1944, rv r_1951, iv s2, rv b1963, iv (1 : Int32), iv (0 : Int32)] [])) t → Steps p.tables e below (s₁.setTop (entryFrame m #[(.int p0), (.int p1), (.int p2), (.int p3)] maxLocals)) t := fun t kt => pre2290 _ (st2291.trans kt)
      have XF2293 : Ext h1951 h2291 := own_ext_keep XF2241 Kc2291 (own_all3 zF_b1963 zF_b2137_1970 zF_na_2239)
      rcases own_sync p1 l2 with ⟨hs2294a, hs2294b⟩ | ⟨hs2294a, hs2294b⟩
      · rw [← hs1] at hs2294a
        have F2295 : Fld Z h2291 b1963 "com/example/homethread/homethread/cli/ScenarioReport" "differs" "Z" (.int (1 : Int32)) := own_fldcast J2291_2 (own_dif0 hs2294b)
        have pre2296 : ∀ t, Steps p.tables e below (T2291.setTop (mkF m 217 #[iv p0, iv p1, iv p2, iv p3, iv (2 : Int32), iv ln, rv r_1920, rv r_1923, iv s0, rv r_1930, rv r_1935, iv s1, rv r_1944, rv r_1951, iv s2, rv b1963, iv (1 : Int32), iv (1 : Int32)] [(.ref b1963)])) t → Steps p.tables e below (s₁.setTop (entryFrame m #[(.int p0), (.int p1), (.int p2), (.int p3)] maxLocals)) t := fun t kt => by
          refine pre2292 _ ?_
          show Steps p.tables e below (T2291.setTop (mkF m 193 #[iv p0, iv p1, iv p2, iv p3, iv (2 : Int32), iv ln, rv r_1920, rv r_1923, iv s0, rv r_1930, rv r_1935, iv s1, rv r_1944, rv r_1951, iv s2, rv b1963, iv (1 : Int32), iv (0 : Int32)] [])) _
          refine XS.iload X2291.here hx rfl (hb hby at_193) rfl ?_
          refine XS.ifNo X2291.here hx rfl (hb hby at_195) rfl (XT.i0_ne_f (by decide)) ?_
          refine XS.iload X2291.here hx rfl (hb hby at_198) rfl ?_
          refine XS.ifNo X2291.here hx rfl (hb hby at_200) rfl (XT.i0_ne_f hs2294a) ?_
          refine XS.iconst X2291.here hx rfl (hb hby at_203) ?_
          refine XS.goto X2291.here hx rfl (pc0 := 204) (pc' := 208) rfl (hb hby at_204) (by decide) (by decide) ?_
          refine XS.istore X2291.here hx rfl (hb hby at_208) rfl (l' := #[iv p0, iv p1, iv p2, iv p3, iv (2 : Int32), iv ln, rv r_1920, rv r_1923, iv s0, rv r_1930, rv r_1935, iv s1, rv r_1944, rv r_1951, iv s2, rv b1963, iv (1 : Int32), iv (1 : Int32)]) rfl ?_
          refine XS.iload X2291.here hx rfl (hb hby at_210) rfl ?_
          show Steps p.tables e below (T2291.setTop (mkF m 212 #[iv p0, iv p1, iv p2, iv p3, iv (2 : Int32), iv ln, rv r_1920, rv r_1923, iv s0, rv r_1930, rv r_1935, iv s1, rv r_1944, rv r_1951, iv s2, rv b1963, iv (1 : Int32), iv (1 : Int32)] [(.int (1 : Int32))])) _
          refine XS.ifNo X2291.here hx rfl (hb hby at_212) rfl (XT.i0_eq_f (by decide)) ?_
          refine XS.aload X2291.here hx rfl (hb hby at_215) rfl rfl ?_
          exact kt
        obtain ⟨cq2297, kq2297, q2297a, q2297b, q2297c⟩ := isOf hZ e2291 J2291_0
        obtain ⟨_, _, ⟨T2297, L2297, k2297, n2297⟩, -, X2297, ⟨Lc2297, hQ2297, l2297, y2297, z2297⟩, st2297⟩ := X2291.virtualBack hx (y := (⟨"com/example/homethread/homethread/cli/ScenarioReport", "exitStatus", "()I"⟩ : MethodName)) (z := (⟨"com/example/homethread/homethread/cli/ScenarioReport", "exitStatus", "()I"⟩ : MethodName)) hown (mvT hZ (W 82 rfl)) (mvT hZ (W 83 rfl)) (notFace_of_selects (args := #[]) (mvT hZ (W 85 rfl))) (mvT hZ (W 85 rfl)) (mvT hZ (W 84 rfl)) (by decide) (backOf (W := 0) (rm_exitStatus17_1 l Z a0 hw [] b1963 h2291 n0 O2291 F2295) hZ (W 86 rfl) (W 51 rfl) (by decide) (by decide)) q2297a q2297c (g := (mkF m 217 #[iv p0, iv p1, iv p2, iv p3, iv (2 : Int32), iv ln, rv r_1920, rv r_1923, iv s0, rv r_1930, rv r_1935, iv s1, rv r_1944, rv r_1951, iv s2, rv b1963, iv (1 : Int32), iv (1 : Int32)] [(.ref b1963)])) rfl (by rw [hml]; rfl) (Steps.refl _) (argsL := []) (rest := []) (lenOf pd_50 rfl) rfl (by show 2 * 0 + _ ≤ _; exact Nat.le_of_eq rfl) (hb hby at_217) (fun _ _ => ⟨rfl, e2291, (by decide : 21 + 0 ≤ _), (by decide : 63 + 0 ≤ _)⟩)
        dsimp only [Pt.U, Pt.locs, Pt.cells, Pt.slots] at X2297 l2297 y2297 z2297 st2297 hQ2297
        replace l2297 := l2297.symm
        replace y2297 : 21 = k2297 := y2297.symm
        replace z2297 : 63 = n2297 := z2297.symm
        subst l2297 y2297 z2297
        obtain ⟨rfl, M2297, e2297⟩ := hQ2297
        have N2297 := Fr.app N2291 M2297
        have pre2298 : ∀ t, Steps p.tables e below (T2297.setTop (mkF m 220 #[iv p0, iv p1, iv p2, iv p3, iv (2 : Int32), iv ln, rv r_1920, rv r_1923, iv s0, rv r_1930, rv r_1935, iv s1, rv r_1944, rv r_1951, iv s2, rv b1963, iv (1 : Int32), iv (1 : Int32)] [(.int (1 : Int32))])) t → Steps p.tables e below (s₁.setTop (entryFrame m #[(.int p0), (.int p1), (.int p2), (.int p3)] maxLocals)) t := fun t kt => pre2296 _ (st2297.trans kt)
        have pre2299 : ∀ t, Steps p.tables e below (T2297.setTop (mkF m 222 #[iv p0, iv p1, iv p2, iv p3, iv (2 : Int32), iv ln, rv r_1920, rv r_1923, iv s0, rv r_1930, rv r_1935, iv s1, rv r_1944, rv r_1951, iv s2, rv b1963, iv (1 : Int32), iv (1 : Int32)] [(.int (1 : Int32)), (.int (1 : Int32))])) t → Steps p.tables e below (s₁.setTop (entryFrame m #[(.int p0), (.int p1), (.int p2), (.int p3)] maxLocals)) t := fun t kt => by
          refine pre2298 _ ?_
          show Steps p.tables e below (T2297.setTop (mkF m 220 #[iv p0, iv p1, iv p2, iv p3, iv (2 : Int32), iv ln, rv r_1920, rv r_1923, iv s0, rv r_1930, rv r_1935, iv s1, rv r_1944, rv r_1951, iv s2, rv b1963, iv (1 : Int32), iv (1 : Int32)] [(.int (1 : Int32))])) _
          refine XS.iload X2297.here hx rfl (hb hby at_220) rfl ?_
          exact kt
        obtain ⟨_, _, ⟨T2300, L2300, k2300, n2300⟩, -, X2300, ⟨Lc2300, hQ2300, l2300, y2300, z2300⟩, st2300⟩ := Jvm.LawKit.callS X2297 hx (y := (⟨"com/example/homethread/homethread/cli/ScenarioReportExitStatusPinLaw", "want", "(Z)I"⟩ : MethodName)) hown (mvT hZ (W 139 rfl)) (mvT hZ (W 140 rfl)) (mvT hZ (W 2 rfl)) (mvT hZ (W 141 rfl)) (by decide) (backOf (W := 1) (rm_want26_1 l Z a0 hw [] h2291 n0 O2291) hZ (W 141 rfl) (W 2 rfl) (by decide) (by decide)) (g := (mkF m 222 #[iv p0, iv p1, iv p2, iv p3, iv (2 : Int32), iv ln, rv r_1920, rv r_1923, iv s0, rv r_1930, rv r_1935, iv s1, rv r_1944, rv r_1951, iv s2, rv b1963, iv (1 : Int32), iv (1 : Int32)] [(.int (1 : Int32)), (.int (1 : Int32))])) rfl (by rw [hml]; rfl) (argsL := [(.int (1 : Int32))]) (rest := [(.int (1 : Int32))]) (lenOf pd_52 rfl) rfl (by show 2 * 0 + _ ≤ _; exact Nat.le_of_eq rfl) (hb hby at_222) (fun _ _ => ⟨rfl, e2297, (by decide : 21 + 0 ≤ _), (by decide : 63 + 0 ≤ _)⟩)
        dsimp only [Pt.U, Pt.locs, Pt.cells, Pt.slots] at X2300 l2300 y2300 z2300 st2300 hQ2300
        replace l2300 := l2300.symm
        replace y2300 : 21 = k2300 := y2300.symm
        replace z2300 : 63 = n2300 := z2300.symm
        subst l2300 y2300 z2300
        obtain ⟨rfl, M2300, e2300⟩ := hQ2300
        have N2300 := Fr.app N2297 M2300
        have pre2301 : ∀ t, Steps p.tables e below (T2300.setTop (mkF m 225 #[iv p0, iv p1, iv p2, iv p3, iv (2 : Int32), iv ln, rv r_1920, rv r_1923, iv s0, rv r_1930, rv r_1935, iv s1, rv r_1944, rv r_1951, iv s2, rv b1963, iv (1 : Int32), iv (1 : Int32)] [(.int (1 : Int32)), (.int (1 : Int32))])) t → Steps p.tables e below (s₁.setTop (entryFrame m #[(.int p0), (.int p1), (.int p2), (.int p3)] maxLocals)) t := fun t kt => pre2299 _ (st2300 _ kt)
        have pre2302 : ∀ t, Steps p.tables e below (T2300.setTop (mkF m 299 #[iv p0, iv p1, iv p2, iv p3, iv (2 : Int32), iv ln, rv r_1920, rv r_1923, iv s0, rv r_1930, rv r_1935, iv s1, rv r_1944, rv r_1951, iv s2, rv b1963, iv (1 : Int32), iv (1 : Int32)] [(.ref b1963)])) t → Steps p.tables e below (s₁.setTop (entryFrame m #[(.int p0), (.int p1), (.int p2), (.int p3)] maxLocals)) t := fun t kt => by
          refine pre2301 _ ?_
          show Steps p.tables e below (T2300.setTop (mkF m 225 #[iv p0, iv p1, iv p2, iv p3, iv (2 : Int32), iv ln, rv r_1920, rv r_1923, iv s0, rv r_1930, rv r_1935, iv s1, rv r_1944, rv r_1951, iv s2, rv b1963, iv (1 : Int32), iv (1 : Int32)] [(.int (1 : Int32)), (.int (1 : Int32))])) _
          refine XS.icmpNo X2300.here hx rfl (hb hby at_225) rfl (XT.ii_ne_f (by decide)) ?_
          refine XS.iconst X2300.here hx rfl (hb hby at_228) ?_
          refine XS.goto X2300.here hx rfl (pc0 := 229) (pc' := 233) rfl (hb hby at_229) (by decide) (by decide) ?_
          refine XS.istore X2300.here hx rfl (hb hby at_233) rfl (l' := #[iv p0, iv p1, iv p2, iv p3, iv (2 : Int32), iv ln, rv r_1920, rv r_1923, iv s0, rv r_1930, rv r_1935, iv s1, rv r_1944, rv r_1951, iv s2, rv b1963, iv (1 : Int32), iv (1 : Int32)]) rfl ?_
          refine XS.iload X2300.here hx rfl (hb hby at_235) rfl ?_
          refine XS.iconst X2300.here hx rfl (hb hby at_237) ?_
          refine XS.icmpYes X2300.here hx rfl (pc0 := 238) (pc' := 292) rfl (hb hby at_238) rfl (XT.ii_lt_t (by decide)) (by decide) (by decide) ?_
          refine XS.iload X2300.here hx rfl (hb hby at_292) rfl ?_
          show Steps p.tables e below (T2300.setTop (mkF m 294 #[iv p0, iv p1, iv p2, iv p3, iv (2 : Int32), iv ln, rv r_1920, rv r_1923, iv s0, rv r_1930, rv r_1935, iv s1, rv r_1944, rv r_1951, iv s2, rv b1963, iv (1 : Int32), iv (1 : Int32)] [(.int (1 : Int32))])) _
          refine XS.ifNo X2300.here hx rfl (hb hby at_294) rfl (XT.i0_eq_f (by decide)) ?_
          refine XS.aload X2300.here hx rfl (hb hby at_297) rfl rfl ?_
          exact kt
        obtain ⟨cq2303, kq2303, q2303a, q2303b, q2303c⟩ := isOf hZ e2300 J2291_0
        obtain ⟨_, _, ⟨T2303, L2303, k2303, n2303⟩, -, X2303, ⟨Lc2303, hQ2303, l2303, y2303, z2303⟩, st2303⟩ := X2300.virtualBack hx (y := (⟨"com/example/homethread/homethread/cli/ScenarioReport", "exitStatus", "()I"⟩ : MethodName)) (z := (⟨"com/example/homethread/homethread/cli/ScenarioReport", "exitStatus", "()I"⟩ : MethodName)) hown (mvT hZ (W 82 rfl)) (mvT hZ (W 83 rfl)) (notFace_of_selects (args := #[]) (mvT hZ (W 85 rfl))) (mvT hZ (W 85 rfl)) (mvT hZ (W 84 rfl)) (by decide) (backOf (W := 0) (rm_exitStatus17_1 l Z a0 hw [] b1963 h2291 n0 O2291 F2295) hZ (W 86 rfl) (W 51 rfl) (by decide) (by decide)) q2303a q2303c (g := (mkF m 299 #[iv p0, iv p1, iv p2, iv p3, iv (2 : Int32), iv ln, rv r_1920, rv r_1923, iv s0, rv r_1930, rv r_1935, iv s1, rv r_1944, rv r_1951, iv s2, rv b1963, iv (1 : Int32), iv (1 : Int32)] [(.ref b1963)])) rfl (by rw [hml]; rfl) (Steps.refl _) (argsL := []) (rest := []) (lenOf pd_50 rfl) rfl (by show 2 * 0 + _ ≤ _; exact Nat.le_of_eq rfl) (hb hby at_299) (fun _ _ => ⟨rfl, e2300, (by decide : 21 + 0 ≤ _), (by decide : 63 + 0 ≤ _)⟩)
        dsimp only [Pt.U, Pt.locs, Pt.cells, Pt.slots] at X2303 l2303 y2303 z2303 st2303 hQ2303
        replace l2303 := l2303.symm
        replace y2303 : 21 = k2303 := y2303.symm
        replace z2303 : 63 = n2303 := z2303.symm
        subst l2303 y2303 z2303
        obtain ⟨rfl, M2303, e2303⟩ := hQ2303
        have N2303 := Fr.app N2300 M2303
        have pre2304 : ∀ t, Steps p.tables e below (T2303.setTop (mkF m 302 #[iv p0, iv p1, iv p2, iv p3, iv (2 : Int32), iv ln, rv r_1920, rv r_1923, iv s0, rv r_1930, rv r_1935, iv s1, rv r_1944, rv r_1951, iv s2, rv b1963, iv (1 : Int32), iv (1 : Int32)] [(.int (1 : Int32))])) t → Steps p.tables e below (s₁.setTop (entryFrame m #[(.int p0), (.int p1), (.int p2), (.int p3)] maxLocals)) t := fun t kt => pre2302 _ (st2303.trans kt)
        have pre2305 : ∀ t, Steps p.tables e below (T2303.setTop (mkF m 304 #[iv p0, iv p1, iv p2, iv p3, iv (2 : Int32), iv ln, rv r_1920, rv r_1923, iv s0, rv r_1930, rv r_1935, iv s1, rv r_1944, rv r_1951, iv s2, rv b1963, iv (1 : Int32), iv (1 : Int32)] [(.int (1 : Int32)), (.int (1 : Int32))])) t → Steps p.tables e below (s₁.setTop (entryFrame m #[(.int p0), (.int p1), (.int p2), (.int p3)] maxLocals)) t := fun t kt => by
          refine pre2304 _ ?_
          show Steps p.tables e below (T2303.setTop (mkF m 302 #[iv p0, iv p1, iv p2, iv p3, iv (2 : Int32), iv ln, rv r_1920, rv r_1923, iv s0, rv r_1930, rv r_1935, iv s1, rv r_1944, rv r_1951, iv s2, rv b1963, iv (1 : Int32), iv (1 : Int32)] [(.int (1 : Int32))])) _
          refine XS.iload X2303.here hx rfl (hb hby at_302) rfl ?_
          exact kt
        obtain ⟨_, _, ⟨T2306, L2306, k2306, n2306⟩, -, X2306, ⟨Lc2306, hQ2306, l2306, y2306, z2306⟩, st2306⟩ := Jvm.LawKit.callS X2303 hx (y := (⟨"com/example/homethread/homethread/cli/ScenarioReportExitStatusPinLaw", "want", "(Z)I"⟩ : MethodName)) hown (mvT hZ (W 139 rfl)) (mvT hZ (W 140 rfl)) (mvT hZ (W 2 rfl)) (mvT hZ (W 141 rfl)) (by decide) (backOf (W := 1) (rm_want26_1 l Z a0 hw [] h2291 n0 O2291) hZ (W 141 rfl) (W 2 rfl) (by decide) (by decide)) (g := (mkF m 304 #[iv p0, iv p1, iv p2, iv p3, iv (2 : Int32), iv ln, rv r_1920, rv r_1923, iv s0, rv r_1930, rv r_1935, iv s1, rv r_1944, rv r_1951, iv s2, rv b1963, iv (1 : Int32), iv (1 : Int32)] [(.int (1 : Int32)), (.int (1 : Int32))])) rfl (by rw [hml]; rfl) (argsL := [(.int (1 : Int32))]) (rest := [(.int (1 : Int32))]) (lenOf pd_52 rfl) rfl (by show 2 * 0 + _ ≤ _; exact Nat.le_of_eq rfl) (hb hby at_304) (fun _ _ => ⟨rfl, e2303, (by decide : 21 + 0 ≤ _), (by decide : 63 + 0 ≤ _)⟩)
        dsimp only [Pt.U, Pt.locs, Pt.cells, Pt.slots] at X2306 l2306 y2306 z2306 st2306 hQ2306
        replace l2306 := l2306.symm
        replace y2306 : 21 = k2306 := y2306.symm
        replace z2306 : 63 = n2306 := z2306.symm
        subst l2306 y2306 z2306
        obtain ⟨rfl, M2306, e2306⟩ := hQ2306
        have N2306 := Fr.app N2303 M2306
        have pre2307 : ∀ t, Steps p.tables e below (T2306.setTop (mkF m 307 #[iv p0, iv p1, iv p2, iv p3, iv (2 : Int32), iv ln, rv r_1920, rv r_1923, iv s0, rv r_1930, rv r_1935, iv s1, rv r_1944, rv r_1951, iv s2, rv b1963, iv (1 : Int32), iv (1 : Int32)] [(.int (1 : Int32)), (.int (1 : Int32))])) t → Steps p.tables e below (s₁.setTop (entryFrame m #[(.int p0), (.int p1), (.int p2), (.int p3)] maxLocals)) t := fun t kt => pre2305 _ (st2306 _ kt)
        have pre2308 : ∀ t, Steps p.tables e below (T2306.setTop (mkF m 319 #[iv p0, iv p1, iv p2, iv p3, iv (2 : Int32), iv ln, rv r_1920, rv r_1923, iv s0, rv r_1930, rv r_1935, iv s1, rv r_1944, rv r_1951, iv s2, rv b1963, iv (1 : Int32), iv (1 : Int32)] [(.int (1 : Int32))])) t → Steps p.tables e below (s₁.setTop (entryFrame m #[(.int p0), (.int p1), (.int p2), (.int p3)] maxLocals)) t := fun t kt => by
          refine pre2307 _ ?_
          show Steps p.tables e below (T2306.setTop (mkF m 307 #[iv p0, iv p1, iv p2, iv p3, iv (2 : Int32), iv ln, rv r_1920, rv r_1923, iv s0, rv r_1930, rv r_1935, iv s1, rv r_1944, rv r_1951, iv s2, rv b1963, iv (1 : Int32), iv (1 : Int32)] [(.int (1 : Int32)), (.int (1 : Int32))])) _
          refine XS.icmpNo X2306.here hx rfl (hb hby at_307) rfl (XT.ii_ne_f (by decide)) ?_
          refine XS.iconst X2306.here hx rfl (hb hby at_310) ?_
          refine XS.goto X2306.here hx rfl (pc0 := 311) (pc' := 315) rfl (hb hby at_311) (by decide) (by decide) ?_
          refine XS.istore X2306.here hx rfl (hb hby at_315) rfl (l' := #[iv p0, iv p1, iv p2, iv p3, iv (2 : Int32), iv ln, rv r_1920, rv r_1923, iv s0, rv r_1930, rv r_1935, iv s1, rv r_1944, rv r_1951, iv s2, rv b1963, iv (1 : Int32), iv (1 : Int32)]) rfl ?_
          refine XS.iload X2306.here hx rfl (hb hby at_317) rfl ?_
          exact kt
        obtain ⟨fs, hr, hrun, hended, hW, hsame⟩ := X2306.leave (v := some (.int (1 : Int32))) (fun h => by rw [Bd.returns] at h; cases h)
        refine ⟨_, _, pre2308 _ (retN X2306 hx (t := .boolean) Bd.returns (by simp) (hb hby at_319) hr), hrun, hended, _, _, rfl, ?_, ⟨_, rfl⟩, hW, hsame.mono (by decide) (by decide)⟩
        show Q_law Z p0 p1 p2 p3 cz ad kd h0 n0 _ T2306.heap _
        rw [e2306]
        exact ⟨rfl, N2306⟩
      · rw [← hs1] at hs2294a
        have F2309 : Fld Z h2291 b1963 "com/example/homethread/homethread/cli/ScenarioReport" "differs" "Z" (.int (0 : Int32)) := own_fldcast J2291_2 (own_dif1 hs2294b)
        have pre2310 : ∀ t, Steps p.tables e below (T2291.setTop (mkF m 217 #[iv p0, iv p1, iv p2, iv p3, iv (2 : Int32), iv ln, rv r_1920, rv r_1923, iv s0, rv r_1930, rv r_1935, iv s1, rv r_1944, rv r_1951, iv s2, rv b1963, iv (1 : Int32), iv (0 : Int32)] [(.ref b1963)])) t → Steps p.tables e below (s₁.setTop (entryFrame m #[(.int p0), (.int p1), (.int p2), (.int p3)] maxLocals)) t := fun t kt => by
          refine pre2292 _ ?_
          show Steps p.tables e below (T2291.setTop (mkF m 193 #[iv p0, iv p1, iv p2, iv p3, iv (2 : Int32), iv ln, rv r_1920, rv r_1923, iv s0, rv r_1930, rv r_1935, iv s1, rv r_1944, rv r_1951, iv s2, rv b1963, iv (1 : Int32), iv (0 : Int32)] [])) _
          refine XS.iload X2291.here hx rfl (hb hby at_193) rfl ?_
          refine XS.ifNo X2291.here hx rfl (hb hby at_195) rfl (XT.i0_ne_f (by decide)) ?_
          refine XS.iload X2291.here hx rfl (hb hby at_198) rfl ?_
          refine XS.ifYes X2291.here hx rfl (pc0 := 200) (pc' := 207) rfl (hb hby at_200) rfl (XT.i0_ne_t hs2294a) (by decide) (by decide) ?_
          refine XS.iconst X2291.here hx rfl (hb hby at_207) ?_
          refine XS.istore X2291.here hx rfl (hb hby at_208) rfl (l' := #[iv p0, iv p1, iv p2, iv p3, iv (2 : Int32), iv ln, rv r_1920, rv r_1923, iv s0, rv r_1930, rv r_1935, iv s1, rv r_1944, rv r_1951, iv s2, rv b1963, iv (1 : Int32), iv (0 : Int32)]) rfl ?_
          refine XS.iload X2291.here hx rfl (hb hby at_210) rfl ?_
          refine XS.ifNo X2291.here hx rfl (hb hby at_212) rfl (XT.i0_eq_f (by decide)) ?_
          show Steps p.tables e below (T2291.setTop (mkF m 215 #[iv p0, iv p1, iv p2, iv p3, iv (2 : Int32), iv ln, rv r_1920, rv r_1923, iv s0, rv r_1930, rv r_1935, iv s1, rv r_1944, rv r_1951, iv s2, rv b1963, iv (1 : Int32), iv (0 : Int32)] [])) _
          refine XS.aload X2291.here hx rfl (hb hby at_215) rfl rfl ?_
          exact kt
        obtain ⟨cq2311, kq2311, q2311a, q2311b, q2311c⟩ := isOf hZ e2291 J2291_0
        obtain ⟨_, _, ⟨T2311, L2311, k2311, n2311⟩, -, X2311, ⟨Lc2311, hQ2311, l2311, y2311, z2311⟩, st2311⟩ := X2291.virtualBack hx (y := (⟨"com/example/homethread/homethread/cli/ScenarioReport", "exitStatus", "()I"⟩ : MethodName)) (z := (⟨"com/example/homethread/homethread/cli/ScenarioReport", "exitStatus", "()I"⟩ : MethodName)) hown (mvT hZ (W 82 rfl)) (mvT hZ (W 83 rfl)) (notFace_of_selects (args := #[]) (mvT hZ (W 85 rfl))) (mvT hZ (W 85 rfl)) (mvT hZ (W 84 rfl)) (by decide) (backOf (W := 0) (rm_exitStatus17_0 l Z a0 hw [] b1963 h2291 n0 O2291 F2309) hZ (W 86 rfl) (W 51 rfl) (by decide) (by decide)) q2311a q2311c (g := (mkF m 217 #[iv p0, iv p1, iv p2, iv p3, iv (2 : Int32), iv ln, rv r_1920, rv r_1923, iv s0, rv r_1930, rv r_1935, iv s1, rv r_1944, rv r_1951, iv s2, rv b1963, iv (1 : Int32), iv (0 : Int32)] [(.ref b1963)])) rfl (by rw [hml]; rfl) (Steps.refl _) (argsL := []) (rest := []) (lenOf pd_50 rfl) rfl (by show 2 * 0 + _ ≤ _; exact Nat.le_of_eq rfl) (hb hby at_217) (fun _ _ => ⟨rfl, e2291, (by decide : 21 + 0 ≤ _), (by decide : 63 + 0 ≤ _)⟩)
        dsimp only [Pt.U, Pt.locs, Pt.cells, Pt.slots] at X2311 l2311 y2311 z2311 st2311 hQ2311
        replace l2311 := l2311.symm
        replace y2311 : 21 = k2311 := y2311.symm
        replace z2311 : 63 = n2311 := z2311.symm
        subst l2311 y2311 z2311
        obtain ⟨rfl, M2311, e2311⟩ := hQ2311
        have N2311 := Fr.app N2291 M2311
        have pre2312 : ∀ t, Steps p.tables e below (T2311.setTop (mkF m 220 #[iv p0, iv p1, iv p2, iv p3, iv (2 : Int32), iv ln, rv r_1920, rv r_1923, iv s0, rv r_1930, rv r_1935, iv s1, rv r_1944, rv r_1951, iv s2, rv b1963, iv (1 : Int32), iv (0 : Int32)] [(.int (0 : Int32))])) t → Steps p.tables e below (s₁.setTop (entryFrame m #[(.int p0), (.int p1), (.int p2), (.int p3)] maxLocals)) t := fun t kt => pre2310 _ (st2311.trans kt)
        have pre2313 : ∀ t, Steps p.tables e below (T2311.setTop (mkF m 222 #[iv p0, iv p1, iv p2, iv p3, iv (2 : Int32), iv ln, rv r_1920, rv r_1923, iv s0, rv r_1930, rv r_1935, iv s1, rv r_1944, rv r_1951, iv s2, rv b1963, iv (1 : Int32), iv (0 : Int32)] [(.int (0 : Int32)), (.int (0 : Int32))])) t → Steps p.tables e below (s₁.setTop (entryFrame m #[(.int p0), (.int p1), (.int p2), (.int p3)] maxLocals)) t := fun t kt => by
          refine pre2312 _ ?_
          show Steps p.tables e below (T2311.setTop (mkF m 220 #[iv p0, iv p1, iv p2, iv p3, iv (2 : Int32), iv ln, rv r_1920, rv r_1923, iv s0, rv r_1930, rv r_1935, iv s1, rv r_1944, rv r_1951, iv s2, rv b1963, iv (1 : Int32), iv (0 : Int32)] [(.int (0 : Int32))])) _
          refine XS.iload X2311.here hx rfl (hb hby at_220) rfl ?_
          exact kt
        obtain ⟨_, _, ⟨T2314, L2314, k2314, n2314⟩, -, X2314, ⟨Lc2314, hQ2314, l2314, y2314, z2314⟩, st2314⟩ := Jvm.LawKit.callS X2311 hx (y := (⟨"com/example/homethread/homethread/cli/ScenarioReportExitStatusPinLaw", "want", "(Z)I"⟩ : MethodName)) hown (mvT hZ (W 139 rfl)) (mvT hZ (W 140 rfl)) (mvT hZ (W 2 rfl)) (mvT hZ (W 141 rfl)) (by decide) (backOf (W := 1) (rm_want26_0 l Z a0 hw [] h2291 n0 O2291) hZ (W 141 rfl) (W 2 rfl) (by decide) (by decide)) (g := (mkF m 222 #[iv p0, iv p1, iv p2, iv p3, iv (2 : Int32), iv ln, rv r_1920, rv r_1923, iv s0, rv r_1930, rv r_1935, iv s1, rv r_1944, rv r_1951, iv s2, rv b1963, iv (1 : Int32), iv (0 : Int32)] [(.int (0 : Int32)), (.int (0 : Int32))])) rfl (by rw [hml]; rfl) (argsL := [(.int (0 : Int32))]) (rest := [(.int (0 : Int32))]) (lenOf pd_52 rfl) rfl (by show 2 * 0 + _ ≤ _; exact Nat.le_of_eq rfl) (hb hby at_222) (fun _ _ => ⟨rfl, e2311, (by decide : 21 + 0 ≤ _), (by decide : 63 + 0 ≤ _)⟩)
        dsimp only [Pt.U, Pt.locs, Pt.cells, Pt.slots] at X2314 l2314 y2314 z2314 st2314 hQ2314
        replace l2314 := l2314.symm
        replace y2314 : 21 = k2314 := y2314.symm
        replace z2314 : 63 = n2314 := z2314.symm
        subst l2314 y2314 z2314
        obtain ⟨rfl, M2314, e2314⟩ := hQ2314
        have N2314 := Fr.app N2311 M2314
        have pre2315 : ∀ t, Steps p.tables e below (T2314.setTop (mkF m 225 #[iv p0, iv p1, iv p2, iv p3, iv (2 : Int32), iv ln, rv r_1920, rv r_1923, iv s0, rv r_1930, rv r_1935, iv s1, rv r_1944, rv r_1951, iv s2, rv b1963, iv (1 : Int32), iv (0 : Int32)] [(.int (0 : Int32)), (.int (0 : Int32))])) t → Steps p.tables e below (s₁.setTop (entryFrame m #[(.int p0), (.int p1), (.int p2), (.int p3)] maxLocals)) t := fun t kt => pre2313 _ (st2314 _ kt)
        have pre2316 : ∀ t, Steps p.tables e below (T2314.setTop (mkF m 299 #[iv p0, iv p1, iv p2, iv p3, iv (2 : Int32), iv ln, rv r_1920, rv r_1923, iv s0, rv r_1930, rv r_1935, iv s1, rv r_1944, rv r_1951, iv s2, rv b1963, iv (1 : Int32), iv (0 : Int32)] [(.ref b1963)])) t → Steps p.tables e below (s₁.setTop (entryFrame m #[(.int p0), (.int p1), (.int p2), (.int p3)] maxLocals)) t := fun t kt => by
          refine pre2315 _ ?_
          show Steps p.tables e below (T2314.setTop (mkF m 225 #[iv p0, iv p1, iv p2, iv p3, iv (2 : Int32), iv ln, rv r_1920, rv r_1923, iv s0, rv r_1930, rv r_1935, iv s1, rv r_1944, rv r_1951, iv s2, rv b1963, iv (1 : Int32), iv (0 : Int32)] [(.int (0 : Int32)), (.int (0 : Int32))])) _
          refine XS.icmpNo X2314.here hx rfl (hb hby at_225) rfl (XT.ii_ne_f (by decide)) ?_
          refine XS.iconst X2314.here hx rfl (hb hby at_228) ?_
          refine XS.goto X2314.here hx rfl (pc0 := 229) (pc' := 233) rfl (hb hby at_229) (by decide) (by decide) ?_
          refine XS.istore X2314.here hx rfl (hb hby at_233) rfl (l' := #[iv p0, iv p1, iv p2, iv p3, iv (2 : Int32), iv ln, rv r_1920, rv r_1923, iv s0, rv r_1930, rv r_1935, iv s1, rv r_1944, rv r_1951, iv s2, rv b1963, iv (1 : Int32), iv (0 : Int32)]) rfl ?_
          refine XS.iload X2314.here hx rfl (hb hby at_235) rfl ?_
          refine XS.iconst X2314.here hx rfl (hb hby at_237) ?_
          refine XS.icmpYes X2314.here hx rfl (pc0 := 238) (pc' := 292) rfl (hb hby at_238) rfl (XT.ii_lt_t (by decide)) (by decide) (by decide) ?_
          refine XS.iload X2314.here hx rfl (hb hby at_292) rfl ?_
          show Steps p.tables e below (T2314.setTop (mkF m 294 #[iv p0, iv p1, iv p2, iv p3, iv (2 : Int32), iv ln, rv r_1920, rv r_1923, iv s0, rv r_1930, rv r_1935, iv s1, rv r_1944, rv r_1951, iv s2, rv b1963, iv (1 : Int32), iv (0 : Int32)] [(.int (1 : Int32))])) _
          refine XS.ifNo X2314.here hx rfl (hb hby at_294) rfl (XT.i0_eq_f (by decide)) ?_
          refine XS.aload X2314.here hx rfl (hb hby at_297) rfl rfl ?_
          exact kt
        obtain ⟨cq2317, kq2317, q2317a, q2317b, q2317c⟩ := isOf hZ e2314 J2291_0
        obtain ⟨_, _, ⟨T2317, L2317, k2317, n2317⟩, -, X2317, ⟨Lc2317, hQ2317, l2317, y2317, z2317⟩, st2317⟩ := X2314.virtualBack hx (y := (⟨"com/example/homethread/homethread/cli/ScenarioReport", "exitStatus", "()I"⟩ : MethodName)) (z := (⟨"com/example/homethread/homethread/cli/ScenarioReport", "exitStatus", "()I"⟩ : MethodName)) hown (mvT hZ (W 82 rfl)) (mvT hZ (W 83 rfl)) (notFace_of_selects (args := #[]) (mvT hZ (W 85 rfl))) (mvT hZ (W 85 rfl)) (mvT hZ (W 84 rfl)) (by decide) (backOf (W := 0) (rm_exitStatus17_0 l Z a0 hw [] b1963 h2291 n0 O2291 F2309) hZ (W 86 rfl) (W 51 rfl) (by decide) (by decide)) q2317a q2317c (g := (mkF m 299 #[iv p0, iv p1, iv p2, iv p3, iv (2 : Int32), iv ln, rv r_1920, rv r_1923, iv s0, rv r_1930, rv r_1935, iv s1, rv r_1944, rv r_1951, iv s2, rv b1963, iv (1 : Int32), iv (0 : Int32)] [(.ref b1963)])) rfl (by rw [hml]; rfl) (Steps.refl _) (argsL := []) (rest := []) (lenOf pd_50 rfl) rfl (by show 2 * 0 + _ ≤ _; exact Nat.le_of_eq rfl) (hb hby at_299) (fun _ _ => ⟨rfl, e2314, (by decide : 21 + 0 ≤ _), (by decide : 63 + 0 ≤ _)⟩)
        dsimp only [Pt.U, Pt.locs, Pt.cells, Pt.slots] at X2317 l2317 y2317 z2317 st2317 hQ2317
        replace l2317 := l2317.symm
        replace y2317 : 21 = k2317 := y2317.symm
        replace z2317 : 63 = n2317 := z2317.symm
        subst l2317 y2317 z2317
        obtain ⟨rfl, M2317, e2317⟩ := hQ2317
        have N2317 := Fr.app N2314 M2317
        have pre2318 : ∀ t, Steps p.tables e below (T2317.setTop (mkF m 302 #[iv p0, iv p1, iv p2, iv p3, iv (2 : Int32), iv ln, rv r_1920, rv r_1923, iv s0, rv r_1930, rv r_1935, iv s1, rv r_1944, rv r_1951, iv s2, rv b1963, iv (1 : Int32), iv (0 : Int32)] [(.int (0 : Int32))])) t → Steps p.tables e below (s₁.setTop (entryFrame m #[(.int p0), (.int p1), (.int p2), (.int p3)] maxLocals)) t := fun t kt => pre2316 _ (st2317.trans kt)
        have pre2319 : ∀ t, Steps p.tables e below (T2317.setTop (mkF m 304 #[iv p0, iv p1, iv p2, iv p3, iv (2 : Int32), iv ln, rv r_1920, rv r_1923, iv s0, rv r_1930, rv r_1935, iv s1, rv r_1944, rv r_1951, iv s2, rv b1963, iv (1 : Int32), iv (0 : Int32)] [(.int (0 : Int32)), (.int (0 : Int32))])) t → Steps p.tables e below (s₁.setTop (entryFrame m #[(.int p0), (.int p1), (.int p2), (.int p3)] maxLocals)) t := fun t kt => by
          refine pre2318 _ ?_
          show Steps p.tables e below (T2317.setTop (mkF m 302 #[iv p0, iv p1, iv p2, iv p3, iv (2 : Int32), iv ln, rv r_1920, rv r_1923, iv s0, rv r_1930, rv r_1935, iv s1, rv r_1944, rv r_1951, iv s2, rv b1963, iv (1 : Int32), iv (0 : Int32)] [(.int (0 : Int32))])) _
          refine XS.iload X2317.here hx rfl (hb hby at_302) rfl ?_
          exact kt
        obtain ⟨_, _, ⟨T2320, L2320, k2320, n2320⟩, -, X2320, ⟨Lc2320, hQ2320, l2320, y2320, z2320⟩, st2320⟩ := Jvm.LawKit.callS X2317 hx (y := (⟨"com/example/homethread/homethread/cli/ScenarioReportExitStatusPinLaw", "want", "(Z)I"⟩ : MethodName)) hown (mvT hZ (W 139 rfl)) (mvT hZ (W 140 rfl)) (mvT hZ (W 2 rfl)) (mvT hZ (W 141 rfl)) (by decide) (backOf (W := 1) (rm_want26_0 l Z a0 hw [] h2291 n0 O2291) hZ (W 141 rfl) (W 2 rfl) (by decide) (by decide)) (g := (mkF m 304 #[iv p0, iv p1, iv p2, iv p3, iv (2 : Int32), iv ln, rv r_1920, rv r_1923, iv s0, rv r_1930, rv r_1935, iv s1, rv r_1944, rv r_1951, iv s2, rv b1963, iv (1 : Int32), iv (0 : Int32)] [(.int (0 : Int32)), (.int (0 : Int32))])) rfl (by rw [hml]; rfl) (argsL := [(.int (0 : Int32))]) (rest := [(.int (0 : Int32))]) (lenOf pd_52 rfl) rfl (by show 2 * 0 + _ ≤ _; exact Nat.le_of_eq rfl) (hb hby at_304) (fun _ _ => ⟨rfl, e2317, (by decide : 21 + 0 ≤ _), (by decide : 63 + 0 ≤ _)⟩)
        dsimp only [Pt.U, Pt.locs, Pt.cells, Pt.slots] at X2320 l2320 y2320 z2320 st2320 hQ2320
        replace l2320 := l2320.symm
        replace y2320 : 21 = k2320 := y2320.symm
        replace z2320 : 63 = n2320 := z2320.symm
        subst l2320 y2320 z2320
        obtain ⟨rfl, M2320, e2320⟩ := hQ2320
        have N2320 := Fr.app N2317 M2320
        have pre2321 : ∀ t, Steps p.tables e below (T2320.setTop (mkF m 307 #[iv p0, iv p1, iv p2, iv p3, iv (2 : Int32), iv ln, rv r_1920, rv r_1923, iv s0, rv r_1930, rv r_1935, iv s1, rv r_1944, rv r_1951, iv s2, rv b1963, iv (1 : Int32), iv (0 : Int32)] [(.int (0 : Int32)), (.int (0 : Int32))])) t → Steps p.tables e below (s₁.setTop (entryFrame m #[(.int p0), (.int p1), (.int p2), (.int p3)] maxLocals)) t := fun t kt => pre2319 _ (st2320 _ kt)
        have pre2322 : ∀ t, Steps p.tables e below (T2320.setTop (mkF m 319 #[iv p0, iv p1, iv p2, iv p3, iv (2 : Int32), iv ln, rv r_1920, rv r_1923, iv s0, rv r_1930, rv r_1935, iv s1, rv r_1944, rv r_1951, iv s2, rv b1963, iv (1 : Int32), iv (0 : Int32)] [(.int (1 : Int32))])) t → Steps p.tables e below (s₁.setTop (entryFrame m #[(.int p0), (.int p1), (.int p2), (.int p3)] maxLocals)) t := fun t kt => by
          refine pre2321 _ ?_
          show Steps p.tables e below (T2320.setTop (mkF m 307 #[iv p0, iv p1, iv p2, iv p3, iv (2 : Int32), iv ln, rv r_1920, rv r_1923, iv s0, rv r_1930, rv r_1935, iv s1, rv r_1944, rv r_1951, iv s2, rv b1963, iv (1 : Int32), iv (0 : Int32)] [(.int (0 : Int32)), (.int (0 : Int32))])) _
          refine XS.icmpNo X2320.here hx rfl (hb hby at_307) rfl (XT.ii_ne_f (by decide)) ?_
          refine XS.iconst X2320.here hx rfl (hb hby at_310) ?_
          refine XS.goto X2320.here hx rfl (pc0 := 311) (pc' := 315) rfl (hb hby at_311) (by decide) (by decide) ?_
          refine XS.istore X2320.here hx rfl (hb hby at_315) rfl (l' := #[iv p0, iv p1, iv p2, iv p3, iv (2 : Int32), iv ln, rv r_1920, rv r_1923, iv s0, rv r_1930, rv r_1935, iv s1, rv r_1944, rv r_1951, iv s2, rv b1963, iv (1 : Int32), iv (0 : Int32)]) rfl ?_
          refine XS.iload X2320.here hx rfl (hb hby at_317) rfl ?_
          exact kt
        obtain ⟨fs, hr, hrun, hended, hW, hsame⟩ := X2320.leave (v := some (.int (1 : Int32))) (fun h => by rw [Bd.returns] at h; cases h)
        refine ⟨_, _, pre2322 _ (retN X2320 hx (t := .boolean) Bd.returns (by simp) (hb hby at_319) hr), hrun, hended, _, _, rfl, ?_, ⟨_, rfl⟩, hW, hsame.mono (by decide) (by decide)⟩
        show Q_law Z p0 p1 p2 p3 cz ad kd h0 n0 _ T2320.heap _
        rw [e2320]
        exact ⟨rfl, N2320⟩
  · rw [hv2179] at pre2178
    have pre2323 : ∀ t, Steps p.tables e below (T2164.setTop (mkF m 133 #[iv p0, iv p1, iv p2, iv p3, iv (3 : Int32), iv ln, rv r_1920, rv r_1923, iv s0, rv r_1930, rv r_1935, iv s1, rv r_1944, rv r_1951, iv s2, rv b1963, iv (1 : Int32), iv (0 : Int32)] [(.ref r_1923), (.ref r_1920), (.ref b1963)])) t → Steps p.tables e below (s₁.setTop (entryFrame m #[(.int p0), (.int p1), (.int p2), (.int p3)] maxLocals)) t := fun t kt => by
      refine pre2178 _ ?_
      show Steps p.tables e below (T2164.setTop (mkF m 121 #[iv p0, iv p1, iv p2, iv p3, iv (3 : Int32), iv ln, rv r_1920, rv r_1923, iv s0, rv r_1930, rv r_1935, iv s1, rv r_1944, rv r_1951, iv s2, rv b1963, iv (1 : Int32), iv (0 : Int32)] [])) _
      refine XS.iload X2164.here hx rfl (hb hby at_121) rfl ?_
      refine XS.iconst X2164.here hx rfl (hb hby at_123) ?_
      refine XS.icmpNo X2164.here hx rfl (hb hby at_124) rfl (XT.ii_lt_f (by decide)) ?_
      refine XS.aload X2164.here hx rfl (hb hby at_127) rfl rfl ?_
      refine XS.aload X2164.here hx rfl (hb hby at_129) rfl rfl ?_
      refine XS.aload X2164.here hx rfl (hb hby at_131) rfl rfl ?_
      exact kt
    obtain ⟨cq2324, kq2324, q2324a, q2324b, q2324c⟩ := isOf hZ e2164 J1970_0
    obtain ⟨_, _, ⟨T2324, L2324, k2324, n2324⟩, -, X2324, ⟨Lc2324, hQ2324, l2324, y2324, z2324⟩, st2324⟩ := X2164.virtualBack hx (y := (⟨"com/example/homethread/homethread/cli/ScenarioReport", "expectLine", "(Ljava/lang/String;Ljava/lang/String;)V"⟩ : MethodName)) (z := (⟨"com/example/homethread/homethread/cli/ScenarioReport", "expectLine", "(Ljava/lang/String;Ljava/lang/String;)V"⟩ : MethodName)) hown (mvT hZ (W 89 rfl)) (mvT hZ (W 90 rfl)) (notFace_of_selects (args := #[]) (mvT hZ (W 92 rfl))) (mvT hZ (W 92 rfl)) (mvT hZ (W 91 rfl)) (by decide) (backOf (W := 0) (rm_line0 l Z a0 hw [] b1963 r_1920 r_1923 cz ad kd b2137_1970 ((0 : Int32)) ((0 : Int32)) ((ln &&& (2 : Int32))) ((own_b ((p0 &&& (255 : Int32)) ^^^ (own_x0 p0)))) ((own_b ((((p0.toUInt32 >>> ((8 : Int32) &&& 31).toUInt32).toInt32) &&& (255 : Int32)) ^^^ (own_x1 p0)))) ((ln &&& (1 : Int32))) ((own_b (p0 &&& (255 : Int32)))) ((own_b (((p0.toUInt32 >>> ((8 : Int32) &&& 31).toUInt32).toInt32) &&& (255 : Int32)))) h1970 n0 O1970 G0 G1 G2 G3 g_b1963 g_b2137_1970 J1970_0 J1970_6 J1970_1 J1970_2 J1970_4 J1970_5 J1970_3 qz (fun q => ne_r_1920_r_1923 q.symm) (Or.inl rfl) ne_b1963_b2137_1970 h1951 XF2162 F1954 F1953 zF_b1963 zF_b2137_1970) hZ (W 93 rfl) (W 51 rfl) (by decide) (by decide)) q2324a q2324c (g := (mkF m 133 #[iv p0, iv p1, iv p2, iv p3, iv (3 : Int32), iv ln, rv r_1920, rv r_1923, iv s0, rv r_1930, rv r_1935, iv s1, rv r_1944, rv r_1951, iv s2, rv b1963, iv (1 : Int32), iv (0 : Int32)] [(.ref r_1923), (.ref r_1920), (.ref b1963)])) rfl (by rw [hml]; rfl) (Steps.refl _) (argsL := [(.ref r_1920), (.ref r_1923)]) (rest := []) (lenOf pd_53 rfl) rfl (by show 2 * 0 + _ ≤ _; exact Nat.le_of_eq rfl) (hb hby at_133) (fun _ _ => ⟨rfl, e2164, (by decide : 20 + 1 ≤ _), (by decide : 53 + 10 ≤ _)⟩)
    dsimp only [Pt.U, Pt.locs, Pt.cells, Pt.slots] at X2324 l2324 y2324 z2324 st2324 hQ2324
    replace l2324 := l2324.symm
    replace y2324 : 21 = k2324 := y2324.symm
    replace z2324 : 63 = n2324 := z2324.symm
    subst l2324 y2324 z2324
    obtain ⟨na_2324, kna_2324, rfl, M2324, Kc2324, O2324, J2324_0, J2324_1, J2324_2, J2324_3, J2324_4, J2324_5, J2324_6, J2324_7, J2324_8, J2324_9, P2324_0⟩ := hQ2324
    obtain ⟨h2324, e2324⟩ : ∃ z, T2324.heap = z := ⟨_, rfl⟩
    rw [e2324] at Kc2324 O2324 J2324_0 J2324_1 J2324_2 J2324_3 J2324_4 J2324_5 J2324_6 J2324_7 J2324_8
    try rw [e2324] at P2324_0
    have N2324 := Fr.app N2164 M2324
    have K2324 : Keep h0 h2324 [] := K1970.trans Kc2324 (own_all2 (Or.inr sz_b1963) (Or.inr sz_b2137_1970))
    have pre2325 : ∀ t, Steps p.tables e below (T2324.setTop (mkF m 136 #[iv p0, iv p1, iv p2, iv p3, iv (3 : Int32), iv ln, rv r_1920, rv r_1923, iv s0, rv r_1930, rv r_1935, iv s1, rv r_1944, rv r_1951, iv s2, rv b1963, iv (1 : Int32), iv (0 : Int32)] [])) t → Steps p.tables e below (s₁.setTop (entryFrame m #[(.int p0), (.int p1), (.int p2), (.int p3)] maxLocals)) t := fun t kt => pre2323 _ (st2324.trans kt)
    have XF2326 : Ext h1951 h2324 := own_ext_keep XF2162 Kc2324 (own_all2 zF_b1963 zF_b2137_1970)
    have sz_na_2324 : h0.size ≤ na_2324 := Nat.le_trans K1970.1 P2324_0
    have ne_ad_na_2324 : ad ≠ na_2324 := Nat.ne_of_lt (Nat.lt_of_lt_of_le (G2.ext O1970.2).lt P2324_0)
    have ne_r_1920_na_2324 : r_1920 ≠ na_2324 := Nat.ne_of_lt (Nat.lt_of_lt_of_le (own_str_lt (own_str_ext F1953 XF2162)) P2324_0)
    have ne_r_1923_na_2324 : r_1923 ≠ na_2324 := Nat.ne_of_lt (Nat.lt_of_lt_of_le (own_str_lt (own_str_ext F1954 XF2162)) P2324_0)
    have ne_r_1930_na_2324 : r_1930 ≠ na_2324 := Nat.ne_of_lt (Nat.lt_of_lt_of_le (own_str_lt (own_str_ext F1955 XF2162)) P2324_0)
    have ne_r_1935_na_2324 : r_1935 ≠ na_2324 := Nat.ne_of_lt (Nat.lt_of_lt_of_le (own_str_lt (own_str_ext F1956 XF2162)) P2324_0)
    have ne_r_1944_na_2324 : r_1944 ≠ na_2324 := Nat.ne_of_lt (Nat.lt_of_lt_of_le (own_str_lt (own_str_ext F1957 XF2162)) P2324_0)
    have ne_r_1951_na_2324 : r_1951 ≠ na_2324 := Nat.ne_of_lt (Nat.lt_of_lt_of_le (own_str_lt (own_str_ext J1951_0 XF2162)) P2324_0)
    have ne_b1963_na_2324 : b1963 ≠ na_2324 := Nat.ne_of_lt (Nat.lt_of_lt_of_le J1970_0.lt P2324_0)
    have ne_b2137_1970_na_2324 : b2137_1970 ≠ na_2324 := Nat.ne_of_lt (Nat.lt_of_lt_of_le J1970_2.lt P2324_0)
    have g_na_2324 : n0 ≤ na_2324 := Nat.le_trans (Nat.le_trans (Nat.le_of_eq O0.1.symm) O0.2.1) sz_na_2324
    have zF_na_2324 : h1951.size ≤ na_2324 := Nat.le_trans XF2162.1 P2324_0
    rcases own_sync p0 ln with ⟨hs2327a, hs2327b⟩ | ⟨hs2327a, hs2327b⟩
    · rw [← hs0] at hs2327a
      have F2328 : Fld Z h2324 b1963 "com/example/homethread/homethread/cli/ScenarioReport" "differs" "Z" (.int (1 : Int32)) := own_fldcast J2324_2 (own_dif0 hs2327b)
      have pre2329 : ∀ t, Steps p.tables e below (T2324.setTop (mkF m 160 #[iv p0, iv p1, iv p2, iv p3, iv (3 : Int32), iv ln, rv r_1920, rv r_1923, iv s0, rv r_1930, rv r_1935, iv s1, rv r_1944, rv r_1951, iv s2, rv b1963, iv (1 : Int32), iv (1 : Int32)] [(.ref b1963)])) t → Steps p.tables e below (s₁.setTop (entryFrame m #[(.int p0), (.int p1), (.int p2), (.int p3)] maxLocals)) t := fun t kt => by
        refine pre2325 _ ?_
        show Steps p.tables e below (T2324.setTop (mkF m 136 #[iv p0, iv p1, iv p2, iv p3, iv (3 : Int32), iv ln, rv r_1920, rv r_1923, iv s0, rv r_1930, rv r_1935, iv s1, rv r_1944, rv r_1951, iv s2, rv b1963, iv (1 : Int32), iv (0 : Int32)] [])) _
        refine XS.iload X2324.here hx rfl (hb hby at_136) rfl ?_
        refine XS.ifNo X2324.here hx rfl (hb hby at_138) rfl (XT.i0_ne_f (by decide)) ?_
        refine XS.iload X2324.here hx rfl (hb hby at_141) rfl ?_
        refine XS.ifNo X2324.here hx rfl (hb hby at_143) rfl (XT.i0_ne_f hs2327a) ?_
        refine XS.iconst X2324.here hx rfl (hb hby at_146) ?_
        refine XS.goto X2324.here hx rfl (pc0 := 147) (pc' := 151) rfl (hb hby at_147) (by decide) (by decide) ?_
        refine XS.istore X2324.here hx rfl (hb hby at_151) rfl (l' := #[iv p0, iv p1, iv p2, iv p3, iv (3 : Int32), iv ln, rv r_1920, rv r_1923, iv s0, rv r_1930, rv r_1935, iv s1, rv r_1944, rv r_1951, iv s2, rv b1963, iv (1 : Int32), iv (1 : Int32)]) rfl ?_
        refine XS.iload X2324.here hx rfl (hb hby at_153) rfl ?_
        show Steps p.tables e below (T2324.setTop (mkF m 155 #[iv p0, iv p1, iv p2, iv p3, iv (3 : Int32), iv ln, rv r_1920, rv r_1923, iv s0, rv r_1930, rv r_1935, iv s1, rv r_1944, rv r_1951, iv s2, rv b1963, iv (1 : Int32), iv (1 : Int32)] [(.int (1 : Int32))])) _
        refine XS.ifNo X2324.here hx rfl (hb hby at_155) rfl (XT.i0_eq_f (by decide)) ?_
        refine XS.aload X2324.here hx rfl (hb hby at_158) rfl rfl ?_
        exact kt
      obtain ⟨cq2330, kq2330, q2330a, q2330b, q2330c⟩ := isOf hZ e2324 J2324_0
      obtain ⟨_, _, ⟨T2330, L2330, k2330, n2330⟩, -, X2330, ⟨Lc2330, hQ2330, l2330, y2330, z2330⟩, st2330⟩ := X2324.virtualBack hx (y := (⟨"com/example/homethread/homethread/cli/ScenarioReport", "exitStatus", "()I"⟩ : MethodName)) (z := (⟨"com/example/homethread/homethread/cli/ScenarioReport", "exitStatus", "()I"⟩ : MethodName)) hown (mvT hZ (W 82 rfl)) (mvT hZ (W 83 rfl)) (notFace_of_selects (args := #[]) (mvT hZ (W 85 rfl))) (mvT hZ (W 85 rfl)) (mvT hZ (W 84 rfl)) (by decide) (backOf (W := 0) (rm_exitStatus17_1 l Z a0 hw [] b1963 h2324 n0 O2324 F2328) hZ (W 86 rfl) (W 51 rfl) (by decide) (by decide)) q2330a q2330c (g := (mkF m 160 #[iv p0, iv p1, iv p2, iv p3, iv (3 : Int32), iv ln, rv r_1920, rv r_1923, iv s0, rv r_1930, rv r_1935, iv s1, rv r_1944, rv r_1951, iv s2, rv b1963, iv (1 : Int32), iv (1 : Int32)] [(.ref b1963)])) rfl (by rw [hml]; rfl) (Steps.refl _) (argsL := []) (rest := []) (lenOf pd_50 rfl) rfl (by show 2 * 0 + _ ≤ _; exact Nat.le_of_eq rfl) (hb hby at_160) (fun _ _ => ⟨rfl, e2324, (by decide : 21 + 0 ≤ _), (by decide : 63 + 0 ≤ _)⟩)
      dsimp only [Pt.U, Pt.locs, Pt.cells, Pt.slots] at X2330 l2330 y2330 z2330 st2330 hQ2330
      replace l2330 := l2330.symm
      replace y2330 : 21 = k2330 := y2330.symm
      replace z2330 : 63 = n2330 := z2330.symm
      subst l2330 y2330 z2330
      obtain ⟨rfl, M2330, e2330⟩ := hQ2330
      have N2330 := Fr.app N2324 M2330
      have pre2331 : ∀ t, Steps p.tables e below (T2330.setTop (mkF m 163 #[iv p0, iv p1, iv p2, iv p3, iv (3 : Int32), iv ln, rv r_1920, rv r_1923, iv s0, rv r_1930, rv r_1935, iv s1, rv r_1944, rv r_1951, iv s2, rv b1963, iv (1 : Int32), iv (1 : Int32)] [(.int (1 : Int32))])) t → Steps p.tables e below (s₁.setTop (entryFrame m #[(.int p0), (.int p1), (.int p2), (.int p3)] maxLocals)) t := fun t kt => pre2329 _ (st2330.trans kt)
      have pre2332 : ∀ t, Steps p.tables e below (T2330.setTop (mkF m 165 #[iv p0, iv p1, iv p2, iv p3, iv (3 : Int32), iv ln, rv r_1920, rv r_1923, iv s0, rv r_1930, rv r_1935, iv s1, rv r_1944, rv r_1951, iv s2, rv b1963, iv (1 : Int32), iv (1 : Int32)] [(.int (1 : Int32)), (.int (1 : Int32))])) t → Steps p.tables e below (s₁.setTop (entryFrame m #[(.int p0), (.int p1), (.int p2), (.int p3)] maxLocals)) t := fun t kt => by
        refine pre2331 _ ?_
        show Steps p.tables e below (T2330.setTop (mkF m 163 #[iv p0, iv p1, iv p2, iv p3, iv (3 : Int32), iv ln, rv r_1920, rv r_1923, iv s0, rv r_1930, rv r_1935, iv s1, rv r_1944, rv r_1951, iv s2, rv b1963, iv (1 : Int32), iv (1 : Int32)] [(.int (1 : Int32))])) _
        refine XS.iload X2330.here hx rfl (hb hby at_163) rfl ?_
        exact kt
      obtain ⟨_, _, ⟨T2333, L2333, k2333, n2333⟩, -, X2333, ⟨Lc2333, hQ2333, l2333, y2333, z2333⟩, st2333⟩ := Jvm.LawKit.callS X2330 hx (y := (⟨"com/example/homethread/homethread/cli/ScenarioReportExitStatusPinLaw", "want", "(Z)I"⟩ : MethodName)) hown (mvT hZ (W 139 rfl)) (mvT hZ (W 140 rfl)) (mvT hZ (W 2 rfl)) (mvT hZ (W 141 rfl)) (by decide) (backOf (W := 1) (rm_want26_1 l Z a0 hw [] h2324 n0 O2324) hZ (W 141 rfl) (W 2 rfl) (by decide) (by decide)) (g := (mkF m 165 #[iv p0, iv p1, iv p2, iv p3, iv (3 : Int32), iv ln, rv r_1920, rv r_1923, iv s0, rv r_1930, rv r_1935, iv s1, rv r_1944, rv r_1951, iv s2, rv b1963, iv (1 : Int32), iv (1 : Int32)] [(.int (1 : Int32)), (.int (1 : Int32))])) rfl (by rw [hml]; rfl) (argsL := [(.int (1 : Int32))]) (rest := [(.int (1 : Int32))]) (lenOf pd_52 rfl) rfl (by show 2 * 0 + _ ≤ _; exact Nat.le_of_eq rfl) (hb hby at_165) (fun _ _ => ⟨rfl, e2330, (by decide : 21 + 0 ≤ _), (by decide : 63 + 0 ≤ _)⟩)
      dsimp only [Pt.U, Pt.locs, Pt.cells, Pt.slots] at X2333 l2333 y2333 z2333 st2333 hQ2333
      replace l2333 := l2333.symm
      replace y2333 : 21 = k2333 := y2333.symm
      replace z2333 : 63 = n2333 := z2333.symm
      subst l2333 y2333 z2333
      obtain ⟨rfl, M2333, e2333⟩ := hQ2333
      have N2333 := Fr.app N2330 M2333
      have pre2334 : ∀ t, Steps p.tables e below (T2333.setTop (mkF m 168 #[iv p0, iv p1, iv p2, iv p3, iv (3 : Int32), iv ln, rv r_1920, rv r_1923, iv s0, rv r_1930, rv r_1935, iv s1, rv r_1944, rv r_1951, iv s2, rv b1963, iv (1 : Int32), iv (1 : Int32)] [(.int (1 : Int32)), (.int (1 : Int32))])) t → Steps p.tables e below (s₁.setTop (entryFrame m #[(.int p0), (.int p1), (.int p2), (.int p3)] maxLocals)) t := fun t kt => pre2332 _ (st2333 _ kt)
      have pre2335 : ∀ t, Steps p.tables e below (T2333.setTop (mkF m 190 #[iv p0, iv p1, iv p2, iv p3, iv (3 : Int32), iv ln, rv r_1920, rv r_1923, iv s0, rv r_1930, rv r_1935, iv s1, rv r_1944, rv r_1951, iv s2, rv b1963, iv (1 : Int32), iv (1 : Int32)] [(.ref r_1935), (.ref r_1930), (.ref b1963)])) t → Steps p.tables e below (s₁.setTop (entryFrame m #[(.int p0), (.int p1), (.int p2), (.int p3)] maxLocals)) t := fun t kt => by
        refine pre2334 _ ?_
        show Steps p.tables e below (T2333.setTop (mkF m 168 #[iv p0, iv p1, iv p2, iv p3, iv (3 : Int32), iv ln, rv r_1920, rv r_1923, iv s0, rv r_1930, rv r_1935, iv s1, rv r_1944, rv r_1951, iv s2, rv b1963, iv (1 : Int32), iv (1 : Int32)] [(.int (1 : Int32)), (.int (1 : Int32))])) _
        refine XS.icmpNo X2333.here hx rfl (hb hby at_168) rfl (XT.ii_ne_f (by decide)) ?_
        refine XS.iconst X2333.here hx rfl (hb hby at_171) ?_
        refine XS.goto X2333.here hx rfl (pc0 := 172) (pc' := 176) rfl (hb hby at_172) (by decide) (by decide) ?_
        refine XS.istore X2333.here hx rfl (hb hby at_176) rfl (l' := #[iv p0, iv p1, iv p2, iv p3, iv (3 : Int32), iv ln, rv r_1920, rv r_1923, iv s0, rv r_1930, rv r_1935, iv s1, rv r_1944, rv r_1951, iv s2, rv b1963, iv (1 : Int32), iv (1 : Int32)]) rfl ?_
        refine XS.iload X2333.here hx rfl (hb hby at_178) rfl ?_
        refine XS.iconst X2333.here hx rfl (hb hby at_180) ?_
        refine XS.icmpNo X2333.here hx rfl (hb hby at_181) rfl (XT.ii_lt_f (by decide)) ?_
        refine XS.aload X2333.here hx rfl (hb hby at_184) rfl rfl ?_
        show Steps p.tables e below (T2333.setTop (mkF m 186 #[iv p0, iv p1, iv p2, iv p3, iv (3 : Int32), iv ln, rv r_1920, rv r_1923, iv s0, rv r_1930, rv r_1935, iv s1, rv r_1944, rv r_1951, iv s2, rv b1963, iv (1 : Int32), iv (1 : Int32)] [(.ref b1963)])) _
        refine XS.aload X2333.here hx rfl (hb hby at_186) rfl rfl ?_
        refine XS.aload X2333.here hx rfl (hb hby at_188) rfl rfl ?_
        exact kt
      obtain ⟨cq2336, kq2336, q2336a, q2336b, q2336c⟩ := isOf hZ e2333 J2324_0
      obtain ⟨_, _, ⟨T2336, L2336, k2336, n2336⟩, -, X2336, ⟨Lc2336, hQ2336, l2336, y2336, z2336⟩, st2336⟩ := X2333.virtualBack hx (y := (⟨"com/example/homethread/homethread/cli/ScenarioReport", "expectLine", "(Ljava/lang/String;Ljava/lang/String;)V"⟩ : MethodName)) (z := (⟨"com/example/homethread/homethread/cli/ScenarioReport", "expectLine", "(Ljava/lang/String;Ljava/lang/String;)V"⟩ : MethodName)) hown (mvT hZ (W 89 rfl)) (mvT hZ (W 90 rfl)) (notFace_of_selects (args := #[]) (mvT hZ (W 92 rfl))) (mvT hZ (W 92 rfl)) (mvT hZ (W 91 rfl)) (by decide) (backOf (W := 0) (rm_line1 l Z a0 hw [] b1963 r_1930 r_1935 cz ad kd b2137_1970 (((0 : Int32) + (1 : Int32))) ((1 : Int32)) ((l2 &&& (2 : Int32))) ((own_b ((p1 &&& (255 : Int32)) ^^^ (own_x0 p1)))) ((own_b ((((p1.toUInt32 >>> ((8 : Int32) &&& 31).toUInt32).toInt32) &&& (255 : Int32)) ^^^ (own_x1 p1)))) ((l2 &&& (1 : Int32))) ((own_b (p1 &&& (255 : Int32)))) ((own_b (((p1.toUInt32 >>> ((8 : Int32) &&& 31).toUInt32).toInt32) &&& (255 : Int32)))) na_2324 kna_2324 ((.ref r_1923)) h2324 n0 O2324 G0 G1 G2 G3 g_b1963 g_b2137_1970 g_na_2324 J2324_0 J2324_1 F2328 J2324_3 J2324_4 J2324_5 J2324_6 J2324_7 J2324_8 J2324_9 qz (fun q => ne_r_1930_r_1935 q.symm) (Or.inr rfl) ne_b1963_b2137_1970 ne_b1963_na_2324 ne_b2137_1970_na_2324 h1951 XF2326 F1956 F1955 zF_b1963 zF_b2137_1970 zF_na_2324) hZ (W 93 rfl) (W 51 rfl) (by decide) (by decide)) q2336a q2336c (g := (mkF m 190 #[iv p0, iv p1, iv p2, iv p3, iv (3 : Int32), iv ln, rv r_1920, rv r_1923, iv s0, rv r_1930, rv r_1935, iv s1, rv r_1944, rv r_1951, iv s2, rv b1963, iv (1 : Int32), iv (1 : Int32)] [(.ref r_1935), (.ref r_1930), (.ref b1963)])) rfl (by rw [hml]; rfl) (Steps.refl _) (argsL := [(.ref r_1930), (.ref r_1935)]) (rest := []) (lenOf pd_53 rfl) rfl (by show 2 * 0 + _ ≤ _; exact Nat.le_of_eq rfl) (hb hby at_190) (fun _ _ => ⟨rfl, e2333, (by decide : 21 + 0 ≤ _), (by decide : 63 + 0 ≤ _)⟩)
      dsimp only [Pt.U, Pt.locs, Pt.cells, Pt.slots] at X2336 l2336 y2336 z2336 st2336 hQ2336
      replace l2336 := l2336.symm
      replace y2336 : 21 = k2336 := y2336.symm
      replace z2336 : 63 = n2336 := z2336.symm
      subst l2336 y2336 z2336
      obtain ⟨rfl, M2336, Kc2336, O2336, J2336_0, J2336_1, J2336_2, J2336_3, J2336_4, J2336_5, J2336_6, J2336_7, J2336_8, J2336_9⟩ := hQ2336
      obtain ⟨h2336, e2336⟩ : ∃ z, T2336.heap = z := ⟨_, rfl⟩
      rw [e2336] at Kc2336 O2336 J2336_0 J2336_1 J2336_2 J2336_3 J2336_4 J2336_5 J2336_6 J2336_7 J2336_8
      have N2336 := Fr.app N2333 M2336
      have K2336 : Keep h0 h2336 [] := K2324.trans Kc2336 (own_all3 (Or.inr sz_b1963) (Or.inr sz_b2137_1970) (Or.inr sz_na_2324))
      have pre2337 : ∀ t, Steps p.tables e below (T2336.setTop (mkF m 193 #[iv p0, iv p1, iv p2, iv p3, iv (3 : Int32), iv ln, rv r_1920, rv r_1923, iv s0, rv r_1930, rv r_1935, iv s1, rv r_1944, rv r_1951, iv s2, rv b1963, iv (1 : Int32), iv (1 : Int32)] [])) t → Steps p.tables e below (s₁.setTop (entryFrame m #[(.int p0), (.int p1), (.int p2), (.int p3)] maxLocals)) t := fun t kt => pre2335 _ (st2336.trans kt)
      have XF2338 : Ext h1951 h2336 := own_ext_keep XF2326 Kc2336 (own_all3 zF_b1963 zF_b2137_1970 zF_na_2324)
      rcases own_sync p1 l2 with ⟨hs2339a, hs2339b⟩ | ⟨hs2339a, hs2339b⟩
      · rw [← hs1] at hs2339a
        have F2340 : Fld Z h2336 b1963 "com/example/homethread/homethread/cli/ScenarioReport" "differs" "Z" (.int (1 : Int32)) := own_fldcast J2336_2 (own_dif0 hs2339b)
        have pre2341 : ∀ t, Steps p.tables e below (T2336.setTop (mkF m 217 #[iv p0, iv p1, iv p2, iv p3, iv (3 : Int32), iv ln, rv r_1920, rv r_1923, iv s0, rv r_1930, rv r_1935, iv s1, rv r_1944, rv r_1951, iv s2, rv b1963, iv (1 : Int32), iv (1 : Int32)] [(.ref b1963)])) t → Steps p.tables e below (s₁.setTop (entryFrame m #[(.int p0), (.int p1), (.int p2), (.int p3)] maxLocals)) t := fun t kt => by
          refine pre2337 _ ?_
          show Steps p.tables e below (T2336.setTop (mkF m 193 #[iv p0, iv p1, iv p2, iv p3, iv (3 : Int32), iv ln, rv r_1920, rv r_1923, iv s0, rv r_1930, rv r_1935, iv s1, rv r_1944, rv r_1951, iv s2, rv b1963, iv (1 : Int32), iv (1 : Int32)] [])) _
          refine XS.iload X2336.here hx rfl (hb hby at_193) rfl ?_
          refine XS.ifYes X2336.here hx rfl (pc0 := 195) (pc' := 203) rfl (hb hby at_195) rfl (XT.i0_ne_t (by decide)) (by decide) (by decide) ?_
          refine XS.iconst X2336.here hx rfl (hb hby at_203) ?_
          refine XS.goto X2336.here hx rfl (pc0 := 204) (pc' := 208) rfl (hb hby at_204) (by decide) (by decide) ?_
          refine XS.istore X2336.here hx rfl (hb hby at_208) rfl (l' := #[iv p0, iv p1, iv p2, iv p3, iv (3 : Int32), iv ln, rv r_1920, rv r_1923, iv s0, rv r_1930, rv r_1935, iv s1, rv r_1944, rv r_1951, iv s2, rv b1963, iv (1 : Int32), iv (1 : Int32)]) rfl ?_
          refine XS.iload X2336.here hx rfl (hb hby at_210) rfl ?_
          refine XS.ifNo X2336.here hx rfl (hb hby at_212) rfl (XT.i0_eq_f (by decide)) ?_
          refine XS.aload X2336.here hx rfl (hb hby at_215) rfl rfl ?_
          exact kt
        obtain ⟨cq2342, kq2342, q2342a, q2342b, q2342c⟩ := isOf hZ e2336 J2336_0
        obtain ⟨_, _, ⟨T2342, L2342, k2342, n2342⟩, -, X2342, ⟨Lc2342, hQ2342, l2342, y2342, z2342⟩, st2342⟩ := X2336.virtualBack hx (y := (⟨"com/example/homethread/homethread/cli/ScenarioReport", "exitStatus", "()I"⟩ : MethodName)) (z := (⟨"com/example/homethread/homethread/cli/ScenarioReport", "exitStatus", "()I"⟩ : MethodName)) hown (mvT hZ (W 82 rfl)) (mvT hZ (W 83 rfl)) (notFace_of_selects (args := #[]) (mvT hZ (W 85 rfl))) (mvT hZ (W 85 rfl)) (mvT hZ (W 84 rfl)) (by decide) (backOf (W := 0) (rm_exitStatus17_1 l Z a0 hw [] b1963 h2336 n0 O2336 F2340) hZ (W 86 rfl) (W 51 rfl) (by decide) (by decide)) q2342a q2342c (g := (mkF m 217 #[iv p0, iv p1, iv p2, iv p3, iv (3 : Int32), iv ln, rv r_1920, rv r_1923, iv s0, rv r_1930, rv r_1935, iv s1, rv r_1944, rv r_1951, iv s2, rv b1963, iv (1 : Int32), iv (1 : Int32)] [(.ref b1963)])) rfl (by rw [hml]; rfl) (Steps.refl _) (argsL := []) (rest := []) (lenOf pd_50 rfl) rfl (by show 2 * 0 + _ ≤ _; exact Nat.le_of_eq rfl) (hb hby at_217) (fun _ _ => ⟨rfl, e2336, (by decide : 21 + 0 ≤ _), (by decide : 63 + 0 ≤ _)⟩)
        dsimp only [Pt.U, Pt.locs, Pt.cells, Pt.slots] at X2342 l2342 y2342 z2342 st2342 hQ2342
        replace l2342 := l2342.symm
        replace y2342 : 21 = k2342 := y2342.symm
        replace z2342 : 63 = n2342 := z2342.symm
        subst l2342 y2342 z2342
        obtain ⟨rfl, M2342, e2342⟩ := hQ2342
        have N2342 := Fr.app N2336 M2342
        have pre2343 : ∀ t, Steps p.tables e below (T2342.setTop (mkF m 220 #[iv p0, iv p1, iv p2, iv p3, iv (3 : Int32), iv ln, rv r_1920, rv r_1923, iv s0, rv r_1930, rv r_1935, iv s1, rv r_1944, rv r_1951, iv s2, rv b1963, iv (1 : Int32), iv (1 : Int32)] [(.int (1 : Int32))])) t → Steps p.tables e below (s₁.setTop (entryFrame m #[(.int p0), (.int p1), (.int p2), (.int p3)] maxLocals)) t := fun t kt => pre2341 _ (st2342.trans kt)
        have pre2344 : ∀ t, Steps p.tables e below (T2342.setTop (mkF m 222 #[iv p0, iv p1, iv p2, iv p3, iv (3 : Int32), iv ln, rv r_1920, rv r_1923, iv s0, rv r_1930, rv r_1935, iv s1, rv r_1944, rv r_1951, iv s2, rv b1963, iv (1 : Int32), iv (1 : Int32)] [(.int (1 : Int32)), (.int (1 : Int32))])) t → Steps p.tables e below (s₁.setTop (entryFrame m #[(.int p0), (.int p1), (.int p2), (.int p3)] maxLocals)) t := fun t kt => by
          refine pre2343 _ ?_
          show Steps p.tables e below (T2342.setTop (mkF m 220 #[iv p0, iv p1, iv p2, iv p3, iv (3 : Int32), iv ln, rv r_1920, rv r_1923, iv s0, rv r_1930, rv r_1935, iv s1, rv r_1944, rv r_1951, iv s2, rv b1963, iv (1 : Int32), iv (1 : Int32)] [(.int (1 : Int32))])) _
          refine XS.iload X2342.here hx rfl (hb hby at_220) rfl ?_
          exact kt
        obtain ⟨_, _, ⟨T2345, L2345, k2345, n2345⟩, -, X2345, ⟨Lc2345, hQ2345, l2345, y2345, z2345⟩, st2345⟩ := Jvm.LawKit.callS X2342 hx (y := (⟨"com/example/homethread/homethread/cli/ScenarioReportExitStatusPinLaw", "want", "(Z)I"⟩ : MethodName)) hown (mvT hZ (W 139 rfl)) (mvT hZ (W 140 rfl)) (mvT hZ (W 2 rfl)) (mvT hZ (W 141 rfl)) (by decide) (backOf (W := 1) (rm_want26_1 l Z a0 hw [] h2336 n0 O2336) hZ (W 141 rfl) (W 2 rfl) (by decide) (by decide)) (g := (mkF m 222 #[iv p0, iv p1, iv p2, iv p3, iv (3 : Int32), iv ln, rv r_1920, rv r_1923, iv s0, rv r_1930, rv r_1935, iv s1, rv r_1944, rv r_1951, iv s2, rv b1963, iv (1 : Int32), iv (1 : Int32)] [(.int (1 : Int32)), (.int (1 : Int32))])) rfl (by rw [hml]; rfl) (argsL := [(.int (1 : Int32))]) (rest := [(.int (1 : Int32))]) (lenOf pd_52 rfl) rfl (by show 2 * 0 + _ ≤ _; exact Nat.le_of_eq rfl) (hb hby at_222) (fun _ _ => ⟨rfl, e2342, (by decide : 21 + 0 ≤ _), (by decide : 63 + 0 ≤ _)⟩)
        dsimp only [Pt.U, Pt.locs, Pt.cells, Pt.slots] at X2345 l2345 y2345 z2345 st2345 hQ2345
        replace l2345 := l2345.symm
        replace y2345 : 21 = k2345 := y2345.symm
        replace z2345 : 63 = n2345 := z2345.symm
        subst l2345 y2345 z2345
        obtain ⟨rfl, M2345, e2345⟩ := hQ2345
        have N2345 := Fr.app N2342 M2345
        have pre2346 : ∀ t, Steps p.tables e below (T2345.setTop (mkF m 225 #[iv p0, iv p1, iv p2, iv p3, iv (3 : Int32), iv ln, rv r_1920, rv r_1923, iv s0, rv r_1930, rv r_1935, iv s1, rv r_1944, rv r_1951, iv s2, rv b1963, iv (1 : Int32), iv (1 : Int32)] [(.int (1 : Int32)), (.int (1 : Int32))])) t → Steps p.tables e below (s₁.setTop (entryFrame m #[(.int p0), (.int p1), (.int p2), (.int p3)] maxLocals)) t := fun t kt => pre2344 _ (st2345 _ kt)
        have pre2347 : ∀ t, Steps p.tables e below (T2345.setTop (mkF m 247 #[iv p0, iv p1, iv p2, iv p3, iv (3 : Int32), iv ln, rv r_1920, rv r_1923, iv s0, rv r_1930, rv r_1935, iv s1, rv r_1944, rv r_1951, iv s2, rv b1963, iv (1 : Int32), iv (1 : Int32)] [(.ref r_1951), (.ref r_1944), (.ref b1963)])) t → Steps p.tables e below (s₁.setTop (entryFrame m #[(.int p0), (.int p1), (.int p2), (.int p3)] maxLocals)) t := fun t kt => by
          refine pre2346 _ ?_
          show Steps p.tables e below (T2345.setTop (mkF m 225 #[iv p0, iv p1, iv p2, iv p3, iv (3 : Int32), iv ln, rv r_1920, rv r_1923, iv s0, rv r_1930, rv r_1935, iv s1, rv r_1944, rv r_1951, iv s2, rv b1963, iv (1 : Int32), iv (1 : Int32)] [(.int (1 : Int32)), (.int (1 : Int32))])) _
          refine XS.icmpNo X2345.here hx rfl (hb hby at_225) rfl (XT.ii_ne_f (by decide)) ?_
          refine XS.iconst X2345.here hx rfl (hb hby at_228) ?_
          refine XS.goto X2345.here hx rfl (pc0 := 229) (pc' := 233) rfl (hb hby at_229) (by decide) (by decide) ?_
          refine XS.istore X2345.here hx rfl (hb hby at_233) rfl (l' := #[iv p0, iv p1, iv p2, iv p3, iv (3 : Int32), iv ln, rv r_1920, rv r_1923, iv s0, rv r_1930, rv r_1935, iv s1, rv r_1944, rv r_1951, iv s2, rv b1963, iv (1 : Int32), iv (1 : Int32)]) rfl ?_
          refine XS.iload X2345.here hx rfl (hb hby at_235) rfl ?_
          refine XS.iconst X2345.here hx rfl (hb hby at_237) ?_
          refine XS.icmpNo X2345.here hx rfl (hb hby at_238) rfl (XT.ii_lt_f (by decide)) ?_
          refine XS.aload X2345.here hx rfl (hb hby at_241) rfl rfl ?_
          show Steps p.tables e below (T2345.setTop (mkF m 243 #[iv p0, iv p1, iv p2, iv p3, iv (3 : Int32), iv ln, rv r_1920, rv r_1923, iv s0, rv r_1930, rv r_1935, iv s1, rv r_1944, rv r_1951, iv s2, rv b1963, iv (1 : Int32), iv (1 : Int32)] [(.ref b1963)])) _
          refine XS.aload X2345.here hx rfl (hb hby at_243) rfl rfl ?_
          refine XS.aload X2345.here hx rfl (hb hby at_245) rfl rfl ?_
          exact kt
        obtain ⟨cq2348, kq2348, q2348a, q2348b, q2348c⟩ := isOf hZ e2345 J2336_0
        obtain ⟨_, _, ⟨T2348, L2348, k2348, n2348⟩, -, X2348, ⟨Lc2348, hQ2348, l2348, y2348, z2348⟩, st2348⟩ := X2345.virtualBack hx (y := (⟨"com/example/homethread/homethread/cli/ScenarioReport", "expectLine", "(Ljava/lang/String;Ljava/lang/String;)V"⟩ : MethodName)) (z := (⟨"com/example/homethread/homethread/cli/ScenarioReport", "expectLine", "(Ljava/lang/String;Ljava/lang/String;)V"⟩ : MethodName)) hown (mvT hZ (W 89 rfl)) (mvT hZ (W 90 rfl)) (notFace_of_selects (args := #[]) (mvT hZ (W 92 rfl))) (mvT hZ (W 92 rfl)) (mvT hZ (W 91 rfl)) (by decide) (backOf (W := 0) (rm_line2 l Z a0 hw [] b1963 r_1944 r_1951 cz ad kd b2137_1970 ((((0 : Int32) + (1 : Int32)) + (1 : Int32))) ((1 : Int32)) ((l4 &&& (2 : Int32))) ((own_b ((p2 &&& (255 : Int32)) ^^^ (own_x0 p2)))) ((own_b ((((p2.toUInt32 >>> ((8 : Int32) &&& 31).toUInt32).toInt32) &&& (255 : Int32)) ^^^ (own_x1 p2)))) ((l4 &&& (1 : Int32))) ((own_b (p2 &&& (255 : Int32)))) ((own_b (((p2.toUInt32 >>> ((8 : Int32) &&& 31).toUInt32).toInt32) &&& (255 : Int32)))) na_2324 kna_2324 ((.ref r_1923)) ((.ref r_1935)) h2336 n0 O2336 G0 G1 G2 G3 g_b1963 g_b2137_1970 g_na_2324 J2336_0 J2336_1 F2340 J2336_3 J2336_4 J2336_5 J2336_6 J2336_7 J2336_8 J2336_9 qz (fun q => ne_r_1944_r_1951 q.symm) (Or.inr rfl) ne_b1963_b2137_1970 ne_b1963_na_2324 ne_b2137_1970_na_2324 h1951 XF2338 J1951_0 F1957 zF_b1963 zF_b2137_1970 zF_na_2324) hZ (W 93 rfl) (W 51 rfl) (by decide) (by decide)) q2348a q2348c (g := (mkF m 247 #[iv p0, iv p1, iv p2, iv p3, iv (3 : Int32), iv ln, rv r_1920, rv r_1923, iv s0, rv r_1930, rv r_1935, iv s1, rv r_1944, rv r_1951, iv s2, rv b1963, iv (1 : Int32), iv (1 : Int32)] [(.ref r_1951), (.ref r_1944), (.ref b1963)])) rfl (by rw [hml]; rfl) (Steps.refl _) (argsL := [(.ref r_1944), (.ref r_1951)]) (rest := []) (lenOf pd_53 rfl) rfl (by show 2 * 0 + _ ≤ _; exact Nat.le_of_eq rfl) (hb hby at_247) (fun _ _ => ⟨rfl, e2345, (by decide : 21 + 0 ≤ _), (by decide : 63 + 0 ≤ _)⟩)
        dsimp only [Pt.U, Pt.locs, Pt.cells, Pt.slots] at X2348 l2348 y2348 z2348 st2348 hQ2348
        replace l2348 := l2348.symm
        replace y2348 : 21 = k2348 := y2348.symm
        replace z2348 : 63 = n2348 := z2348.symm
        subst l2348 y2348 z2348
        obtain ⟨rfl, M2348, Kc2348, O2348, J2348_0, J2348_1, J2348_2, J2348_3, J2348_4, J2348_5, J2348_6, J2348_7, J2348_8, J2348_9⟩ := hQ2348
        obtain ⟨h2348, e2348⟩ : ∃ z, T2348.heap = z := ⟨_, rfl⟩
        rw [e2348] at Kc2348 O2348 J2348_0 J2348_1 J2348_2 J2348_3 J2348_4 J2348_5 J2348_6 J2348_7 J2348_8
        have N2348 := Fr.app N2345 M2348
        have K2348 : Keep h0 h2348 [] := K2336.trans Kc2348 (own_all3 (Or.inr sz_b1963) (Or.inr sz_b2137_1970) (Or.inr sz_na_2324))
        have pre2349 : ∀ t, Steps p.tables e below (T2348.setTop (mkF m 250 #[iv p0, iv p1, iv p2, iv p3, iv (3 : Int32), iv ln, rv r_1920, rv r_1923, iv s0, rv r_1930, rv r_1935, iv s1, rv r_1944, rv r_1951, iv s2, rv b1963, iv (1 : Int32), iv (1 : Int32)] [])) t → Steps p.tables e below (s₁.setTop (entryFrame m #[(.int p0), (.int p1), (.int p2), (.int p3)] maxLocals)) t := fun t kt => pre2347 _ (st2348.trans kt)
        have XF2350 : Ext h1951 h2348 := own_ext_keep XF2338 Kc2348 (own_all3 zF_b1963 zF_b2137_1970 zF_na_2324)
        rcases own_sync p2 l4 with ⟨hs2351a, hs2351b⟩ | ⟨hs2351a, hs2351b⟩
        · rw [← hs2] at hs2351a
          have F2352 : Fld Z h2348 b1963 "com/example/homethread/homethread/cli/ScenarioReport" "differs" "Z" (.int (1 : Int32)) := own_fldcast J2348_2 (own_dif0 hs2351b)
          have pre2353 : ∀ t, Steps p.tables e below (T2348.setTop (mkF m 274 #[iv p0, iv p1, iv p2, iv p3, iv (3 : Int32), iv ln, rv r_1920, rv r_1923, iv s0, rv r_1930, rv r_1935, iv s1, rv r_1944, rv r_1951, iv s2, rv b1963, iv (1 : Int32), iv (1 : Int32)] [(.ref b1963)])) t → Steps p.tables e below (s₁.setTop (entryFrame m #[(.int p0), (.int p1), (.int p2), (.int p3)] maxLocals)) t := fun t kt => by
            refine pre2349 _ ?_
            show Steps p.tables e below (T2348.setTop (mkF m 250 #[iv p0, iv p1, iv p2, iv p3, iv (3 : Int32), iv ln, rv r_1920, rv r_1923, iv s0, rv r_1930, rv r_1935, iv s1, rv r_1944, rv r_1951, iv s2, rv b1963, iv (1 : Int32), iv (1 : Int32)] [])) _
            refine XS.iload X2348.here hx rfl (hb hby at_250) rfl ?_
            refine XS.ifYes X2348.here hx rfl (pc0 := 252) (pc' := 260) rfl (hb hby at_252) rfl (XT.i0_ne_t (by decide)) (by decide) (by decide) ?_
            refine XS.iconst X2348.here hx rfl (hb hby at_260) ?_
            refine XS.goto X2348.here hx rfl (pc0 := 261) (pc' := 265) rfl (hb hby at_261) (by decide) (by decide) ?_
            refine XS.istore X2348.here hx rfl (hb hby at_265) rfl (l' := #[iv p0, iv p1, iv p2, iv p3, iv (3 : Int32), iv ln, rv r_1920, rv r_1923, iv s0, rv r_1930, rv r_1935, iv s1, rv r_1944, rv r_1951, iv s2, rv b1963, iv (1 : Int32), iv (1 : Int32)]) rfl ?_
            refine XS.iload X2348.here hx rfl (hb hby at_267) rfl ?_
            refine XS.ifNo X2348.here hx rfl (hb hby at_269) rfl (XT.i0_eq_f (by decide)) ?_
            refine XS.aload X2348.here hx rfl (hb hby at_272) rfl rfl ?_
            exact kt
          obtain ⟨cq2354, kq2354, q2354a, q2354b, q2354c⟩ := isOf hZ e2348 J2348_0
          obtain ⟨_, _, ⟨T2354, L2354, k2354, n2354⟩, -, X2354, ⟨Lc2354, hQ2354, l2354, y2354, z2354⟩, st2354⟩ := X2348.virtualBack hx (y := (⟨"com/example/homethread/homethread/cli/ScenarioReport", "exitStatus", "()I"⟩ : MethodName)) (z := (⟨"com/example/homethread/homethread/cli/ScenarioReport", "exitStatus", "()I"⟩ : MethodName)) hown (mvT hZ (W 82 rfl)) (mvT hZ (W 83 rfl)) (notFace_of_selects (args := #[]) (mvT hZ (W 85 rfl))) (mvT hZ (W 85 rfl)) (mvT hZ (W 84 rfl)) (by decide) (backOf (W := 0) (rm_exitStatus17_1 l Z a0 hw [] b1963 h2348 n0 O2348 F2352) hZ (W 86 rfl) (W 51 rfl) (by decide) (by decide)) q2354a q2354c (g := (mkF m 274 #[iv p0, iv p1, iv p2, iv p3, iv (3 : Int32), iv ln, rv r_1920, rv r_1923, iv s0, rv r_1930, rv r_1935, iv s1, rv r_1944, rv r_1951, iv s2, rv b1963, iv (1 : Int32), iv (1 : Int32)] [(.ref b1963)])) rfl (by rw [hml]; rfl) (Steps.refl _) (argsL := []) (rest := []) (lenOf pd_50 rfl) rfl (by show 2 * 0 + _ ≤ _; exact Nat.le_of_eq rfl) (hb hby at_274) (fun _ _ => ⟨rfl, e2348, (by decide : 21 + 0 ≤ _), (by decide : 63 + 0 ≤ _)⟩)
          dsimp only [Pt.U, Pt.locs, Pt.cells, Pt.slots] at X2354 l2354 y2354 z2354 st2354 hQ2354
          replace l2354 := l2354.symm
          replace y2354 : 21 = k2354 := y2354.symm
          replace z2354 : 63 = n2354 := z2354.symm
          subst l2354 y2354 z2354
          obtain ⟨rfl, M2354, e2354⟩ := hQ2354
          have N2354 := Fr.app N2348 M2354
          have pre2355 : ∀ t, Steps p.tables e below (T2354.setTop (mkF m 277 #[iv p0, iv p1, iv p2, iv p3, iv (3 : Int32), iv ln, rv r_1920, rv r_1923, iv s0, rv r_1930, rv r_1935, iv s1, rv r_1944, rv r_1951, iv s2, rv b1963, iv (1 : Int32), iv (1 : Int32)] [(.int (1 : Int32))])) t → Steps p.tables e below (s₁.setTop (entryFrame m #[(.int p0), (.int p1), (.int p2), (.int p3)] maxLocals)) t := fun t kt => pre2353 _ (st2354.trans kt)
          have pre2356 : ∀ t, Steps p.tables e below (T2354.setTop (mkF m 279 #[iv p0, iv p1, iv p2, iv p3, iv (3 : Int32), iv ln, rv r_1920, rv r_1923, iv s0, rv r_1930, rv r_1935, iv s1, rv r_1944, rv r_1951, iv s2, rv b1963, iv (1 : Int32), iv (1 : Int32)] [(.int (1 : Int32)), (.int (1 : Int32))])) t → Steps p.tables e below (s₁.setTop (entryFrame m #[(.int p0), (.int p1), (.int p2), (.int p3)] maxLocals)) t := fun t kt => by
            refine pre2355 _ ?_
            show Steps p.tables e below (T2354.setTop (mkF m 277 #[iv p0, iv p1, iv p2, iv p3, iv (3 : Int32), iv ln, rv r_1920, rv r_1923, iv s0, rv r_1930, rv r_1935, iv s1, rv r_1944, rv r_1951, iv s2, rv b1963, iv (1 : Int32), iv (1 : Int32)] [(.int (1 : Int32))])) _
            refine XS.iload X2354.here hx rfl (hb hby at_277) rfl ?_
            exact kt
          obtain ⟨_, _, ⟨T2357, L2357, k2357, n2357⟩, -, X2357, ⟨Lc2357, hQ2357, l2357, y2357, z2357⟩, st2357⟩ := Jvm.LawKit.callS X2354 hx (y := (⟨"com/example/homethread/homethread/cli/ScenarioReportExitStatusPinLaw", "want", "(Z)I"⟩ : MethodName)) hown (mvT hZ (W 139 rfl)) (mvT hZ (W 140 rfl)) (mvT hZ (W 2 rfl)) (mvT hZ (W 141 rfl)) (by decide) (backOf (W := 1) (rm_want26_1 l Z a0 hw [] h2348 n0 O2348) hZ (W 141 rfl) (W 2 rfl) (by decide) (by decide)) (g := (mkF m 279 #[iv p0, iv p1, iv p2, iv p3, iv (3 : Int32), iv ln, rv r_1920, rv r_1923, iv s0, rv r_1930, rv r_1935, iv s1, rv r_1944, rv r_1951, iv s2, rv b1963, iv (1 : Int32), iv (1 : Int32)] [(.int (1 : Int32)), (.int (1 : Int32))])) rfl (by rw [hml]; rfl) (argsL := [(.int (1 : Int32))]) (rest := [(.int (1 : Int32))]) (lenOf pd_52 rfl) rfl (by show 2 * 0 + _ ≤ _; exact Nat.le_of_eq rfl) (hb hby at_279) (fun _ _ => ⟨rfl, e2354, (by decide : 21 + 0 ≤ _), (by decide : 63 + 0 ≤ _)⟩)
          dsimp only [Pt.U, Pt.locs, Pt.cells, Pt.slots] at X2357 l2357 y2357 z2357 st2357 hQ2357
          replace l2357 := l2357.symm
          replace y2357 : 21 = k2357 := y2357.symm
          replace z2357 : 63 = n2357 := z2357.symm
          subst l2357 y2357 z2357
          obtain ⟨rfl, M2357, e2357⟩ := hQ2357
          have N2357 := Fr.app N2354 M2357
          have pre2358 : ∀ t, Steps p.tables e below (T2357.setTop (mkF m 282 #[iv p0, iv p1, iv p2, iv p3, iv (3 : Int32), iv ln, rv r_1920, rv r_1923, iv s0, rv r_1930, rv r_1935, iv s1, rv r_1944, rv r_1951, iv s2, rv b1963, iv (1 : Int32), iv (1 : Int32)] [(.int (1 : Int32)), (.int (1 : Int32))])) t → Steps p.tables e below (s₁.setTop (entryFrame m #[(.int p0), (.int p1), (.int p2), (.int p3)] maxLocals)) t := fun t kt => pre2356 _ (st2357 _ kt)
          have pre2359 : ∀ t, Steps p.tables e below (T2357.setTop (mkF m 299 #[iv p0, iv p1, iv p2, iv p3, iv (3 : Int32), iv ln, rv r_1920, rv r_1923, iv s0, rv r_1930, rv r_1935, iv s1, rv r_1944, rv r_1951, iv s2, rv b1963, iv (1 : Int32), iv (1 : Int32)] [(.ref b1963)])) t → Steps p.tables e below (s₁.setTop (entryFrame m #[(.int p0), (.int p1), (.int p2), (.int p3)] maxLocals)) t := fun t kt => by
            refine pre2358 _ ?_
            show Steps p.tables e below (T2357.setTop (mkF m 282 #[iv p0, iv p1, iv p2, iv p3, iv (3 : Int32), iv ln, rv r_1920, rv r_1923, iv s0, rv r_1930, rv r_1935, iv s1, rv r_1944, rv r_1951, iv s2, rv b1963, iv (1 : Int32), iv (1 : Int32)] [(.int (1 : Int32)), (.int (1 : Int32))])) _
            refine XS.icmpNo X2357.here hx rfl (hb hby at_282) rfl (XT.ii_ne_f (by decide)) ?_
            refine XS.iconst X2357.here hx rfl (hb hby at_285) ?_
            refine XS.goto X2357.here hx rfl (pc0 := 286) (pc' := 290) rfl (hb hby at_286) (by decide) (by decide) ?_
            refine XS.istore X2357.here hx rfl (hb hby at_290) rfl (l' := #[iv p0, iv p1, iv p2, iv p3, iv (3 : Int32), iv ln, rv r_1920, rv r_1923, iv s0, rv r_1930, rv r_1935, iv s1, rv r_1944, rv r_1951, iv s2, rv b1963, iv (1 : Int32), iv (1 : Int32)]) rfl ?_
            refine XS.iload X2357.here hx rfl (hb hby at_292) rfl ?_
            refine XS.ifNo X2357.here hx rfl (hb hby at_294) rfl (XT.i0_eq_f (by decide)) ?_
            refine XS.aload X2357.here hx rfl (hb hby at_297) rfl rfl ?_
            exact kt
          obtain ⟨cq2360, kq2360, q2360a, q2360b, q2360c⟩ := isOf hZ e2357 J2348_0
          obtain ⟨_, _, ⟨T2360, L2360, k2360, n2360⟩, -, X2360, ⟨Lc2360, hQ2360, l2360, y2360, z2360⟩, st2360⟩ := X2357.virtualBack hx (y := (⟨"com/example/homethread/homethread/cli/ScenarioReport", "exitStatus", "()I"⟩ : MethodName)) (z := (⟨"com/example/homethread/homethread/cli/ScenarioReport", "exitStatus", "()I"⟩ : MethodName)) hown (mvT hZ (W 82 rfl)) (mvT hZ (W 83 rfl)) (notFace_of_selects (args := #[]) (mvT hZ (W 85 rfl))) (mvT hZ (W 85 rfl)) (mvT hZ (W 84 rfl)) (by decide) (backOf (W := 0) (rm_exitStatus17_1 l Z a0 hw [] b1963 h2348 n0 O2348 F2352) hZ (W 86 rfl) (W 51 rfl) (by decide) (by decide)) q2360a q2360c (g := (mkF m 299 #[iv p0, iv p1, iv p2, iv p3, iv (3 : Int32), iv ln, rv r_1920, rv r_1923, iv s0, rv r_1930, rv r_1935, iv s1, rv r_1944, rv r_1951, iv s2, rv b1963, iv (1 : Int32), iv (1 : Int32)] [(.ref b1963)])) rfl (by rw [hml]; rfl) (Steps.refl _) (argsL := []) (rest := []) (lenOf pd_50 rfl) rfl (by show 2 * 0 + _ ≤ _; exact Nat.le_of_eq rfl) (hb hby at_299) (fun _ _ => ⟨rfl, e2357, (by decide : 21 + 0 ≤ _), (by decide : 63 + 0 ≤ _)⟩)
          dsimp only [Pt.U, Pt.locs, Pt.cells, Pt.slots] at X2360 l2360 y2360 z2360 st2360 hQ2360
          replace l2360 := l2360.symm
          replace y2360 : 21 = k2360 := y2360.symm
          replace z2360 : 63 = n2360 := z2360.symm
          subst l2360 y2360 z2360
          obtain ⟨rfl, M2360, e2360⟩ := hQ2360
          have N2360 := Fr.app N2357 M2360
          have pre2361 : ∀ t, Steps p.tables e below (T2360.setTop (mkF m 302 #[iv p0, iv p1, iv p2, iv p3, iv (3 : Int32), iv ln, rv r_1920, rv r_1923, iv s0, rv r_1930, rv r_1935, iv s1, rv r_1944, rv r_1951, iv s2, rv b1963, iv (1 : Int32), iv (1 : Int32)] [(.int (1 : Int32))])) t → Steps p.tables e below (s₁.setTop (entryFrame m #[(.int p0), (.int p1), (.int p2), (.int p3)] maxLocals)) t := fun t kt => pre2359 _ (st2360.trans kt)
          have pre2362 : ∀ t, Steps p.tables e below (T2360.setTop (mkF m 304 #[iv p0, iv p1, iv p2, iv p3, iv (3 : Int32), iv ln, rv r_1920, rv r_1923, iv s0, rv r_1930, rv r_1935, iv s1, rv r_1944, rv r_1951, iv s2, rv b1963, iv (1 : Int32), iv (1 : Int32)] [(.int (1 : Int32)), (.int (1 : Int32))])) t → Steps p.tables e below (s₁.setTop (entryFrame m #[(.int p0), (.int p1), (.int p2), (.int p3)] maxLocals)) t := fun t kt => by
            refine pre2361 _ ?_
            show Steps p.tables e below (T2360.setTop (mkF m 302 #[iv p0, iv p1, iv p2, iv p3, iv (3 : Int32), iv ln, rv r_1920, rv r_1923, iv s0, rv r_1930, rv r_1935, iv s1, rv r_1944, rv r_1951, iv s2, rv b1963, iv (1 : Int32), iv (1 : Int32)] [(.int (1 : Int32))])) _
            refine XS.iload X2360.here hx rfl (hb hby at_302) rfl ?_
            exact kt
          obtain ⟨_, _, ⟨T2363, L2363, k2363, n2363⟩, -, X2363, ⟨Lc2363, hQ2363, l2363, y2363, z2363⟩, st2363⟩ := Jvm.LawKit.callS X2360 hx (y := (⟨"com/example/homethread/homethread/cli/ScenarioReportExitStatusPinLaw", "want", "(Z)I"⟩ : MethodName)) hown (mvT hZ (W 139 rfl)) (mvT hZ (W 140 rfl)) (mvT hZ (W 2 rfl)) (mvT hZ (W 141 rfl)) (by decide) (backOf (W := 1) (rm_want26_1 l Z a0 hw [] h2348 n0 O2348) hZ (W 141 rfl) (W 2 rfl) (by decide) (by decide)) (g := (mkF m 304 #[iv p0, iv p1, iv p2, iv p3, iv (3 : Int32), iv ln, rv r_1920, rv r_1923, iv s0, rv r_1930, rv r_1935, iv s1, rv r_1944, rv r_1951, iv s2, rv b1963, iv (1 : Int32), iv (1 : Int32)] [(.int (1 : Int32)), (.int (1 : Int32))])) rfl (by rw [hml]; rfl) (argsL := [(.int (1 : Int32))]) (rest := [(.int (1 : Int32))]) (lenOf pd_52 rfl) rfl (by show 2 * 0 + _ ≤ _; exact Nat.le_of_eq rfl) (hb hby at_304) (fun _ _ => ⟨rfl, e2360, (by decide : 21 + 0 ≤ _), (by decide : 63 + 0 ≤ _)⟩)
          dsimp only [Pt.U, Pt.locs, Pt.cells, Pt.slots] at X2363 l2363 y2363 z2363 st2363 hQ2363
          replace l2363 := l2363.symm
          replace y2363 : 21 = k2363 := y2363.symm
          replace z2363 : 63 = n2363 := z2363.symm
          subst l2363 y2363 z2363
          obtain ⟨rfl, M2363, e2363⟩ := hQ2363
          have N2363 := Fr.app N2360 M2363
          have pre2364 : ∀ t, Steps p.tables e below (T2363.setTop (mkF m 307 #[iv p0, iv p1, iv p2, iv p3, iv (3 : Int32), iv ln, rv r_1920, rv r_1923, iv s0, rv r_1930, rv r_1935, iv s1, rv r_1944, rv r_1951, iv s2, rv b1963, iv (1 : Int32), iv (1 : Int32)] [(.int (1 : Int32)), (.int (1 : Int32))])) t → Steps p.tables e below (s₁.setTop (entryFrame m #[(.int p0), (.int p1), (.int p2), (.int p3)] maxLocals)) t := fun t kt => pre2362 _ (st2363 _ kt)
          have pre2365 : ∀ t, Steps p.tables e below (T2363.setTop (mkF m 319 #[iv p0, iv p1, iv p2, iv p3, iv (3 : Int32), iv ln, rv r_1920, rv r_1923, iv s0, rv r_1930, rv r_1935, iv s1, rv r_1944, rv r_1951, iv s2, rv b1963, iv (1 : Int32), iv (1 : Int32)] [(.int (1 : Int32))])) t → Steps p.tables e below (s₁.setTop (entryFrame m #[(.int p0), (.int p1), (.int p2), (.int p3)] maxLocals)) t := fun t kt => by
            refine pre2364 _ ?_
            show Steps p.tables e below (T2363.setTop (mkF m 307 #[iv p0, iv p1, iv p2, iv p3, iv (3 : Int32), iv ln, rv r_1920, rv r_1923, iv s0, rv r_1930, rv r_1935, iv s1, rv r_1944, rv r_1951, iv s2, rv b1963, iv (1 : Int32), iv (1 : Int32)] [(.int (1 : Int32)), (.int (1 : Int32))])) _
            refine XS.icmpNo X2363.here hx rfl (hb hby at_307) rfl (XT.ii_ne_f (by decide)) ?_
            refine XS.iconst X2363.here hx rfl (hb hby at_310) ?_
            refine XS.goto X2363.here hx rfl (pc0 := 311) (pc' := 315) rfl (hb hby at_311) (by decide) (by decide) ?_
            refine XS.istore X2363.here hx rfl (hb hby at_315) rfl (l' := #[iv p0, iv p1, iv p2, iv p3, iv (3 : Int32), iv ln, rv r_1920, rv r_1923, iv s0, rv r_1930, rv r_1935, iv s1, rv r_1944, rv r_1951, iv s2, rv b1963, iv (1 : Int32), iv (1 : Int32)]) rfl ?_
            refine XS.iload X2363.here hx rfl (hb hby at_317) rfl ?_
            exact kt
          obtain ⟨fs, hr, hrun, hended, hW, hsame⟩ := X2363.leave (v := some (.int (1 : Int32))) (fun h => by rw [Bd.returns] at h; cases h)
          refine ⟨_, _, pre2365 _ (retN X2363 hx (t := .boolean) Bd.returns (by simp) (hb hby at_319) hr), hrun, hended, _, _, rfl, ?_, ⟨_, rfl⟩, hW, hsame.mono (by decide) (by decide)⟩
          show Q_law Z p0 p1 p2 p3 cz ad kd h0 n0 _ T2363.heap _
          rw [e2363]
          exact ⟨rfl, N2363⟩
        · rw [← hs2] at hs2351a
          have F2366 : Fld Z h2348 b1963 "com/example/homethread/homethread/cli/ScenarioReport" "differs" "Z" (.int (1 : Int32)) := own_fldcast J2348_2 (own_dif1 hs2351b)
          have pre2367 : ∀ t, Steps p.tables e below (T2348.setTop (mkF m 274 #[iv p0, iv p1, iv p2, iv p3, iv (3 : Int32), iv ln, rv r_1920, rv r_1923, iv s0, rv r_1930, rv r_1935, iv s1, rv r_1944, rv r_1951, iv s2, rv b1963, iv (1 : Int32), iv (1 : Int32)] [(.ref b1963)])) t → Steps p.tables e below (s₁.setTop (entryFrame m #[(.int p0), (.int p1), (.int p2), (.int p3)] maxLocals)) t := fun t kt => by
            refine pre2349 _ ?_
            show Steps p.tables e below (T2348.setTop (mkF m 250 #[iv p0, iv p1, iv p2, iv p3, iv (3 : Int32), iv ln, rv r_1920, rv r_1923, iv s0, rv r_1930, rv r_1935, iv s1, rv r_1944, rv r_1951, iv s2, rv b1963, iv (1 : Int32), iv (1 : Int32)] [])) _
            refine XS.iload X2348.here hx rfl (hb hby at_250) rfl ?_
            refine XS.ifYes X2348.here hx rfl (pc0 := 252) (pc' := 260) rfl (hb hby at_252) rfl (XT.i0_ne_t (by decide)) (by decide) (by decide) ?_
            refine XS.iconst X2348.here hx rfl (hb hby at_260) ?_
            refine XS.goto X2348.here hx rfl (pc0 := 261) (pc' := 265) rfl (hb hby at_261) (by decide) (by decide) ?_
            refine XS.istore X2348.here hx rfl (hb hby at_265) rfl (l' := #[iv p0, iv p1, iv p2, iv p3, iv (3 : Int32), iv ln, rv r_1920, rv r_1923, iv s0, rv r_1930, rv r_1935, iv s1, rv r_1944, rv r_1951, iv s2, rv b1963, iv (1 : Int32), iv (1 : Int32)]) rfl ?_
            refine XS.iload X2348.here hx rfl (hb hby at_267) rfl ?_
            refine XS.ifNo X2348.here hx rfl (hb hby at_269) rfl (XT.i0_eq_f (by decide)) ?_
            refine XS.aload X2348.here hx rfl (hb hby at_272) rfl rfl ?_
            exact kt
          obtain ⟨cq2368, kq2368, q2368a, q2368b, q2368c⟩ := isOf hZ e2348 J2348_0
          obtain ⟨_, _, ⟨T2368, L2368, k2368, n2368⟩, -, X2368, ⟨Lc2368, hQ2368, l2368, y2368, z2368⟩, st2368⟩ := X2348.virtualBack hx (y := (⟨"com/example/homethread/homethread/cli/ScenarioReport", "exitStatus", "()I"⟩ : MethodName)) (z := (⟨"com/example/homethread/homethread/cli/ScenarioReport", "exitStatus", "()I"⟩ : MethodName)) hown (mvT hZ (W 82 rfl)) (mvT hZ (W 83 rfl)) (notFace_of_selects (args := #[]) (mvT hZ (W 85 rfl))) (mvT hZ (W 85 rfl)) (mvT hZ (W 84 rfl)) (by decide) (backOf (W := 0) (rm_exitStatus17_1 l Z a0 hw [] b1963 h2348 n0 O2348 F2366) hZ (W 86 rfl) (W 51 rfl) (by decide) (by decide)) q2368a q2368c (g := (mkF m 274 #[iv p0, iv p1, iv p2, iv p3, iv (3 : Int32), iv ln, rv r_1920, rv r_1923, iv s0, rv r_1930, rv r_1935, iv s1, rv r_1944, rv r_1951, iv s2, rv b1963, iv (1 : Int32), iv (1 : Int32)] [(.ref b1963)])) rfl (by rw [hml]; rfl) (Steps.refl _) (argsL := []) (rest := []) (lenOf pd_50 rfl) rfl (by show 2 * 0 + _ ≤ _; exact Nat.le_of_eq rfl) (hb hby at_274) (fun _ _ => ⟨rfl, e2348, (by decide : 21 + 0 ≤ _), (by decide : 63 + 0 ≤ _)⟩)
          dsimp only [Pt.U, Pt.locs, Pt.cells, Pt.slots] at X2368 l2368 y2368 z2368 st2368 hQ2368
          replace l2368 := l2368.symm
          replace y2368 : 21 = k2368 := y2368.symm
          replace z2368 : 63 = n2368 := z2368.symm
          subst l2368 y2368 z2368
          obtain ⟨rfl, M2368, e2368⟩ := hQ2368
          have N2368 := Fr.app N2348 M2368
          have pre2369 : ∀ t, Steps p.tables e below (T2368.setTop (mkF m 277 #[iv p0, iv p1, iv p2, iv p3, iv (3 : Int32), iv ln, rv r_1920, rv r_1923, iv s0, rv r_1930, rv r_1935, iv s1, rv r_1944, rv r_1951, iv s2, rv b1963, iv (1 : Int32), iv (1 : Int32)] [(.int (1 : Int32))])) t → Steps p.tables e below (s₁.setTop (entryFrame m #[(.int p0), (.int p1), (.int p2), (.int p3)] maxLocals)) t := fun t kt => pre2367 _ (st2368.trans kt)
          have pre2370 : ∀ t, Steps p.tables e below (T2368.setTop (mkF m 279 #[iv p0, iv p1, iv p2, iv p3, iv (3 : Int32), iv ln, rv r_1920, rv r_1923, iv s0, rv r_1930, rv r_1935, iv s1, rv r_1944, rv r_1951, iv s2, rv b1963, iv (1 : Int32), iv (1 : Int32)] [(.int (1 : Int32)), (.int (1 : Int32))])) t → Steps p.tables e below (s₁.setTop (entryFrame m #[(.int p0), (.int p1), (.int p2), (.int p3)] maxLocals)) t := fun t kt => by
            refine pre2369 _ ?_
            show Steps p.tables e below (T2368.setTop (mkF m 277 #[iv p0, iv p1, iv p2, iv p3, iv (3 : Int32), iv ln, rv r_1920, rv r_1923, iv s0, rv r_1930, rv r_1935, iv s1, rv r_1944, rv r_1951, iv s2, rv b1963, iv (1 : Int32), iv (1 : Int32)] [(.int (1 : Int32))])) _
            refine XS.iload X2368.here hx rfl (hb hby at_277) rfl ?_
            exact kt
          obtain ⟨_, _, ⟨T2371, L2371, k2371, n2371⟩, -, X2371, ⟨Lc2371, hQ2371, l2371, y2371, z2371⟩, st2371⟩ := Jvm.LawKit.callS X2368 hx (y := (⟨"com/example/homethread/homethread/cli/ScenarioReportExitStatusPinLaw", "want", "(Z)I"⟩ : MethodName)) hown (mvT hZ (W 139 rfl)) (mvT hZ (W 140 rfl)) (mvT hZ (W 2 rfl)) (mvT hZ (W 141 rfl)) (by decide) (backOf (W := 1) (rm_want26_1 l Z a0 hw [] h2348 n0 O2348) hZ (W 141 rfl) (W 2 rfl) (by decide) (by decide)) (g := (mkF m 279 #[iv p0, iv p1, iv p2, iv p3, iv (3 : Int32), iv ln, rv r_1920, rv r_1923, iv s0, rv r_1930, rv r_1935, iv s1, rv r_1944, rv r_1951, iv s2, rv b1963, iv (1 : Int32), iv (1 : Int32)] [(.int (1 : Int32)), (.int (1 : Int32))])) rfl (by rw [hml]; rfl) (argsL := [(.int (1 : Int32))]) (rest := [(.int (1 : Int32))]) (lenOf pd_52 rfl) rfl (by show 2 * 0 + _ ≤ _; exact Nat.le_of_eq rfl) (hb hby at_279) (fun _ _ => ⟨rfl, e2368, (by decide : 21 + 0 ≤ _), (by decide : 63 + 0 ≤ _)⟩)
          dsimp only [Pt.U, Pt.locs, Pt.cells, Pt.slots] at X2371 l2371 y2371 z2371 st2371 hQ2371
          replace l2371 := l2371.symm
          replace y2371 : 21 = k2371 := y2371.symm
          replace z2371 : 63 = n2371 := z2371.symm
          subst l2371 y2371 z2371
          obtain ⟨rfl, M2371, e2371⟩ := hQ2371
          have N2371 := Fr.app N2368 M2371
          have pre2372 : ∀ t, Steps p.tables e below (T2371.setTop (mkF m 282 #[iv p0, iv p1, iv p2, iv p3, iv (3 : Int32), iv ln, rv r_1920, rv r_1923, iv s0, rv r_1930, rv r_1935, iv s1, rv r_1944, rv r_1951, iv s2, rv b1963, iv (1 : Int32), iv (1 : Int32)] [(.int (1 : Int32)), (.int (1 : Int32))])) t → Steps p.tables e below (s₁.setTop (entryFrame m #[(.int p0), (.int p1), (.int p2), (.int p3)] maxLocals)) t := fun t kt => pre2370 _ (st2371 _ kt)
          have pre2373 : ∀ t, Steps p.tables e below (T2371.setTop (mkF m 299 #[iv p0, iv p1, iv p2, iv p3, iv (3 : Int32), iv ln, rv r_1920, rv r_1923, iv s0, rv r_1930, rv r_1935, iv s1, rv r_1944, rv r_1951, iv s2, rv b1963, iv (1 : Int32), iv (1 : Int32)] [(.ref b1963)])) t → Steps p.tables e below (s₁.setTop (entryFrame m #[(.int p0), (.int p1), (.int p2), (.int p3)] maxLocals)) t := fun t kt => by
            refine pre2372 _ ?_
            show Steps p.tables e below (T2371.setTop (mkF m 282 #[iv p0, iv p1, iv p2, iv p3, iv (3 : Int32), iv ln, rv r_1920, rv r_1923, iv s0, rv r_1930, rv r_1935, iv s1, rv r_1944, rv r_1951, iv s2, rv b1963, iv (1 : Int32), iv (1 : Int32)] [(.int (1 : Int32)), (.int (1 : Int32))])) _
            refine XS.icmpNo X2371.here hx rfl (hb hby at_282) rfl (XT.ii_ne_f (by decide)) ?_
            refine XS.iconst X2371.here hx rfl (hb hby at_285) ?_
            refine XS.goto X2371.here hx rfl (pc0 := 286) (pc' := 290) rfl (hb hby at_286) (by decide) (by decide) ?_
            refine XS.istore X2371.here hx rfl (hb hby at_290) rfl (l' := #[iv p0, iv p1, iv p2, iv p3, iv (3 : Int32), iv ln, rv r_1920, rv r_1923, iv s0, rv r_1930, rv r_1935, iv s1, rv r_1944, rv r_1951, iv s2, rv b1963, iv (1 : Int32), iv (1 : Int32)]) rfl ?_
            refine XS.iload X2371.here hx rfl (hb hby at_292) rfl ?_
            refine XS.ifNo X2371.here hx rfl (hb hby at_294) rfl (XT.i0_eq_f (by decide)) ?_
            refine XS.aload X2371.here hx rfl (hb hby at_297) rfl rfl ?_
            exact kt
          obtain ⟨cq2374, kq2374, q2374a, q2374b, q2374c⟩ := isOf hZ e2371 J2348_0
          obtain ⟨_, _, ⟨T2374, L2374, k2374, n2374⟩, -, X2374, ⟨Lc2374, hQ2374, l2374, y2374, z2374⟩, st2374⟩ := X2371.virtualBack hx (y := (⟨"com/example/homethread/homethread/cli/ScenarioReport", "exitStatus", "()I"⟩ : MethodName)) (z := (⟨"com/example/homethread/homethread/cli/ScenarioReport", "exitStatus", "()I"⟩ : MethodName)) hown (mvT hZ (W 82 rfl)) (mvT hZ (W 83 rfl)) (notFace_of_selects (args := #[]) (mvT hZ (W 85 rfl))) (mvT hZ (W 85 rfl)) (mvT hZ (W 84 rfl)) (by decide) (backOf (W := 0) (rm_exitStatus17_1 l Z a0 hw [] b1963 h2348 n0 O2348 F2366) hZ (W 86 rfl) (W 51 rfl) (by decide) (by decide)) q2374a q2374c (g := (mkF m 299 #[iv p0, iv p1, iv p2, iv p3, iv (3 : Int32), iv ln, rv r_1920, rv r_1923, iv s0, rv r_1930, rv r_1935, iv s1, rv r_1944, rv r_1951, iv s2, rv b1963, iv (1 : Int32), iv (1 : Int32)] [(.ref b1963)])) rfl (by rw [hml]; rfl) (Steps.refl _) (argsL := []) (rest := []) (lenOf pd_50 rfl) rfl (by show 2 * 0 + _ ≤ _; exact Nat.le_of_eq rfl) (hb hby at_299) (fun _ _ => ⟨rfl, e2371, (by decide : 21 + 0 ≤ _), (by decide : 63 + 0 ≤ _)⟩)
          dsimp only [Pt.U, Pt.locs, Pt.cells, Pt.slots] at X2374 l2374 y2374 z2374 st2374 hQ2374
          replace l2374 := l2374.symm
          replace y2374 : 21 = k2374 := y2374.symm
          replace z2374 : 63 = n2374 := z2374.symm
          subst l2374 y2374 z2374
          obtain ⟨rfl, M2374, e2374⟩ := hQ2374
          have N2374 := Fr.app N2371 M2374
          have pre2375 : ∀ t, Steps p.tables e below (T2374.setTop (mkF m 302 #[iv p0, iv p1, iv p2, iv p3, iv (3 : Int32), iv ln, rv r_1920, rv r_1923, iv s0, rv r_1930, rv r_1935, iv s1, rv r_1944, rv r_1951, iv s2, rv b1963, iv (1 : Int32), iv (1 : Int32)] [(.int (1 : Int32))])) t → Steps p.tables e below (s₁.setTop (entryFrame m #[(.int p0), (.int p1), (.int p2), (.int p3)] maxLocals)) t := fun t kt => pre2373 _ (st2374.trans kt)
          have pre2376 : ∀ t, Steps p.tables e below (T2374.setTop (mkF m 304 #[iv p0, iv p1, iv p2, iv p3, iv (3 : Int32), iv ln, rv r_1920, rv r_1923, iv s0, rv r_1930, rv r_1935, iv s1, rv r_1944, rv r_1951, iv s2, rv b1963, iv (1 : Int32), iv (1 : Int32)] [(.int (1 : Int32)), (.int (1 : Int32))])) t → Steps p.tables e below (s₁.setTop (entryFrame m #[(.int p0), (.int p1), (.int p2), (.int p3)] maxLocals)) t := fun t kt => by
            refine pre2375 _ ?_
            show Steps p.tables e below (T2374.setTop (mkF m 302 #[iv p0, iv p1, iv p2, iv p3, iv (3 : Int32), iv ln, rv r_1920, rv r_1923, iv s0, rv r_1930, rv r_1935, iv s1, rv r_1944, rv r_1951, iv s2, rv b1963, iv (1 : Int32), iv (1 : Int32)] [(.int (1 : Int32))])) _
            refine XS.iload X2374.here hx rfl (hb hby at_302) rfl ?_
            exact kt
          obtain ⟨_, _, ⟨T2377, L2377, k2377, n2377⟩, -, X2377, ⟨Lc2377, hQ2377, l2377, y2377, z2377⟩, st2377⟩ := Jvm.LawKit.callS X2374 hx (y := (⟨"com/example/homethread/homethread/cli/ScenarioReportExitStatusPinLaw", "want", "(Z)I"⟩ : MethodName)) hown (mvT hZ (W 139 rfl)) (mvT hZ (W 140 rfl)) (mvT hZ (W 2 rfl)) (mvT hZ (W 141 rfl)) (by decide) (backOf (W := 1) (rm_want26_1 l Z a0 hw [] h2348 n0 O2348) hZ (W 141 rfl) (W 2 rfl) (by decide) (by decide)) (g := (mkF m 304 #[iv p0, iv p1, iv p2, iv p3, iv (3 : Int32), iv ln, rv r_1920, rv r_1923, iv s0, rv r_1930, rv r_1935, iv s1, rv r_1944, rv r_1951, iv s2, rv b1963, iv (1 : Int32), iv (1 : Int32)] [(.int (1 : Int32)), (.int (1 : Int32))])) rfl (by rw [hml]; rfl) (argsL := [(.int (1 : Int32))]) (rest := [(.int (1 : Int32))]) (lenOf pd_52 rfl) rfl (by show 2 * 0 + _ ≤ _; exact Nat.le_of_eq rfl) (hb hby at_304) (fun _ _ => ⟨rfl, e2374, (by decide : 21 + 0 ≤ _), (by decide : 63 + 0 ≤ _)⟩)
          dsimp only [Pt.U, Pt.locs, Pt.cells, Pt.slots] at X2377 l2377 y2377 z2377 st2377 hQ2377
          replace l2377 := l2377.symm
          replace y2377 : 21 = k2377 := y2377.symm
          replace z2377 : 63 = n2377 := z2377.symm
          subst l2377 y2377 z2377
          obtain ⟨rfl, M2377, e2377⟩ := hQ2377
          have N2377 := Fr.app N2374 M2377
          have pre2378 : ∀ t, Steps p.tables e below (T2377.setTop (mkF m 307 #[iv p0, iv p1, iv p2, iv p3, iv (3 : Int32), iv ln, rv r_1920, rv r_1923, iv s0, rv r_1930, rv r_1935, iv s1, rv r_1944, rv r_1951, iv s2, rv b1963, iv (1 : Int32), iv (1 : Int32)] [(.int (1 : Int32)), (.int (1 : Int32))])) t → Steps p.tables e below (s₁.setTop (entryFrame m #[(.int p0), (.int p1), (.int p2), (.int p3)] maxLocals)) t := fun t kt => pre2376 _ (st2377 _ kt)
          have pre2379 : ∀ t, Steps p.tables e below (T2377.setTop (mkF m 319 #[iv p0, iv p1, iv p2, iv p3, iv (3 : Int32), iv ln, rv r_1920, rv r_1923, iv s0, rv r_1930, rv r_1935, iv s1, rv r_1944, rv r_1951, iv s2, rv b1963, iv (1 : Int32), iv (1 : Int32)] [(.int (1 : Int32))])) t → Steps p.tables e below (s₁.setTop (entryFrame m #[(.int p0), (.int p1), (.int p2), (.int p3)] maxLocals)) t := fun t kt => by
            refine pre2378 _ ?_
            show Steps p.tables e below (T2377.setTop (mkF m 307 #[iv p0, iv p1, iv p2, iv p3, iv (3 : Int32), iv ln, rv r_1920, rv r_1923, iv s0, rv r_1930, rv r_1935, iv s1, rv r_1944, rv r_1951, iv s2, rv b1963, iv (1 : Int32), iv (1 : Int32)] [(.int (1 : Int32)), (.int (1 : Int32))])) _
            refine XS.icmpNo X2377.here hx rfl (hb hby at_307) rfl (XT.ii_ne_f (by decide)) ?_
            refine XS.iconst X2377.here hx rfl (hb hby at_310) ?_
            refine XS.goto X2377.here hx rfl (pc0 := 311) (pc' := 315) rfl (hb hby at_311) (by decide) (by decide) ?_
            refine XS.istore X2377.here hx rfl (hb hby at_315) rfl (l' := #[iv p0, iv p1, iv p2, iv p3, iv (3 : Int32), iv ln, rv r_1920, rv r_1923, iv s0, rv r_1930, rv r_1935, iv s1, rv r_1944, rv r_1951, iv s2, rv b1963, iv (1 : Int32), iv (1 : Int32)]) rfl ?_
            refine XS.iload X2377.here hx rfl (hb hby at_317) rfl ?_
            exact kt
          obtain ⟨fs, hr, hrun, hended, hW, hsame⟩ := X2377.leave (v := some (.int (1 : Int32))) (fun h => by rw [Bd.returns] at h; cases h)
          refine ⟨_, _, pre2379 _ (retN X2377 hx (t := .boolean) Bd.returns (by simp) (hb hby at_319) hr), hrun, hended, _, _, rfl, ?_, ⟨_, rfl⟩, hW, hsame.mono (by decide) (by decide)⟩
          show Q_law Z p0 p1 p2 p3 cz ad kd h0 n0 _ T2377.heap _
          rw [e2377]
          exact ⟨rfl, N2377⟩
      · rw [← hs1] at hs2339a
        have F2380 : Fld Z h2336 b1963 "com/example/homethread/homethread/cli/ScenarioReport" "differs" "Z" (.int (1 : Int32)) := own_fldcast J2336_2 (own_dif1 hs2339b)
        have pre2381 : ∀ t, Steps p.tables e below (T2336.setTop (mkF m 217 #[iv p0, iv p1, iv p2, iv p3, iv (3 : Int32), iv ln, rv r_1920, rv r_1923, iv s0, rv r_1930, rv r_1935, iv s1, rv r_1944, rv r_1951, iv s2, rv b1963, iv (1 : Int32), iv (1 : Int32)] [(.ref b1963)])) t → Steps p.tables e below (s₁.setTop (entryFrame m #[(.int p0), (.int p1), (.int p2), (.int p3)] maxLocals)) t := fun t kt => by
          refine pre2337 _ ?_
          show Steps p.tables e below (T2336.setTop (mkF m 193 #[iv p0, iv p1, iv p2, iv p3, iv (3 : Int32), iv ln, rv r_1920, rv r_1923, iv s0, rv r_1930, rv r_1935, iv s1, rv r_1944, rv r_1951, iv s2, rv b1963, iv (1 : Int32), iv (1 : Int32)] [])) _
          refine XS.iload X2336.here hx rfl (hb hby at_193) rfl ?_
          refine XS.ifYes X2336.here hx rfl (pc0 := 195) (pc' := 203) rfl (hb hby at_195) rfl (XT.i0_ne_t (by decide)) (by decide) (by decide) ?_
          refine XS.iconst X2336.here hx rfl (hb hby at_203) ?_
          refine XS.goto X2336.here hx rfl (pc0 := 204) (pc' := 208) rfl (hb hby at_204) (by decide) (by decide) ?_
          refine XS.istore X2336.here hx rfl (hb hby at_208) rfl (l' := #[iv p0, iv p1, iv p2, iv p3, iv (3 : Int32), iv ln, rv r_1920, rv r_1923, iv s0, rv r_1930, rv r_1935, iv s1, rv r_1944, rv r_1951, iv s2, rv b1963, iv (1 : Int32), iv (1 : Int32)]) rfl ?_
          refine XS.iload X2336.here hx rfl (hb hby at_210) rfl ?_
          refine XS.ifNo X2336.here hx rfl (hb hby at_212) rfl (XT.i0_eq_f (by decide)) ?_
          refine XS.aload X2336.here hx rfl (hb hby at_215) rfl rfl ?_
          exact kt
        obtain ⟨cq2382, kq2382, q2382a, q2382b, q2382c⟩ := isOf hZ e2336 J2336_0
        obtain ⟨_, _, ⟨T2382, L2382, k2382, n2382⟩, -, X2382, ⟨Lc2382, hQ2382, l2382, y2382, z2382⟩, st2382⟩ := X2336.virtualBack hx (y := (⟨"com/example/homethread/homethread/cli/ScenarioReport", "exitStatus", "()I"⟩ : MethodName)) (z := (⟨"com/example/homethread/homethread/cli/ScenarioReport", "exitStatus", "()I"⟩ : MethodName)) hown (mvT hZ (W 82 rfl)) (mvT hZ (W 83 rfl)) (notFace_of_selects (args := #[]) (mvT hZ (W 85 rfl))) (mvT hZ (W 85 rfl)) (mvT hZ (W 84 rfl)) (by decide) (backOf (W := 0) (rm_exitStatus17_1 l Z a0 hw [] b1963 h2336 n0 O2336 F2380) hZ (W 86 rfl) (W 51 rfl) (by decide) (by decide)) q2382a q2382c (g := (mkF m 217 #[iv p0, iv p1, iv p2, iv p3, iv (3 : Int32), iv ln, rv r_1920, rv r_1923, iv s0, rv r_1930, rv r_1935, iv s1, rv r_1944, rv r_1951, iv s2, rv b1963, iv (1 : Int32), iv (1 : Int32)] [(.ref b1963)])) rfl (by rw [hml]; rfl) (Steps.refl _) (argsL := []) (rest := []) (lenOf pd_50 rfl) rfl (by show 2 * 0 + _ ≤ _; exact Nat.le_of_eq rfl) (hb hby at_217) (fun _ _ => ⟨rfl, e2336, (by decide : 21 + 0 ≤ _), (by decide : 63 + 0 ≤ _)⟩)
        dsimp only [Pt.U, Pt.locs, Pt.cells, Pt.slots] at X2382 l2382 y2382 z2382 st2382 hQ2382
        replace l2382 := l2382.symm
        replace y2382 : 21 = k2382 := y2382.symm
        replace z2382 : 63 = n2382 := z2382.symm
        subst l2382 y2382 z2382
        obtain ⟨rfl, M2382, e2382⟩ := hQ2382
        have N2382 := Fr.app N2336 M2382
        have pre2383 : ∀ t, Steps p.tables e below (T2382.setTop (mkF m 220 #[iv p0, iv p1, iv p2, iv p3, iv (3 : Int32), iv ln, rv r_1920, rv r_1923, iv s0, rv r_1930, rv r_1935, iv s1, rv r_1944, rv r_1951, iv s2, rv b1963, iv (1 : Int32), iv (1 : Int32)] [(.int (1 : Int32))])) t → Steps p.tables e below (s₁.setTop (entryFrame m #[(.int p0), (.int p1), (.int p2), (.int p3)] maxLocals)) t := fun t kt => pre2381 _ (st2382.trans kt)
        have pre2384 : ∀ t, Steps p.tables e below (T2382.setTop (mkF m 222 #[iv p0, iv p1, iv p2, iv p3, iv (3 : Int32), iv ln, rv r_1920, rv r_1923, iv s0, rv r_1930, rv r_1935, iv s1, rv r_1944, rv r_1951, iv s2, rv b1963, iv (1 : Int32), iv (1 : Int32)] [(.int (1 : Int32)), (.int (1 : Int32))])) t → Steps p.tables e below (s₁.setTop (entryFrame m #[(.int p0), (.int p1), (.int p2), (.int p3)] maxLocals)) t := fun t kt => by
          refine pre2383 _ ?_
          show Steps p.tables e below (T2382.setTop (mkF m 220 #[iv p0, iv p1, iv p2, iv p3, iv (3 : Int32), iv ln, rv r_1920, rv r_1923, iv s0, rv r_1930, rv r_1935, iv s1, rv r_1944, rv r_1951, iv s2, rv b1963, iv (1 : Int32), iv (1 : Int32)] [(.int (1 : Int32))])) _
          refine XS.iload X2382.here hx rfl (hb hby at_220) rfl ?_
          exact kt
        obtain ⟨_, _, ⟨T2385, L2385, k2385, n2385⟩, -, X2385, ⟨Lc2385, hQ2385, l2385, y2385, z2385⟩, st2385⟩ := Jvm.LawKit.callS X2382 hx (y := (⟨"com/example/homethread/homethread/cli/ScenarioReportExitStatusPinLaw", "want", "(Z)I"⟩ : MethodName)) hown (mvT hZ (W 139 rfl)) (mvT hZ (W 140 rfl)) (mvT hZ (W 2 rfl)) (mvT hZ (W 141 rfl)) (by decide) (backOf (W := 1) (rm_want26_1 l Z a0 hw [] h2336 n0 O2336) hZ (W 141 rfl) (W 2 rfl) (by decide) (by decide)) (g := (mkF m 222 #[iv p0, iv p1, iv p2, iv p3, iv (3 : Int32), iv ln, rv r_1920, rv r_1923, iv s0, rv r_1930, rv r_1935, iv s1, rv r_1944, rv r_1951, iv s2, rv b1963, iv (1 : Int32), iv (1 : Int32)] [(.int (1 : Int32)), (.int (1 : Int32))])) rfl (by rw [hml]; rfl) (argsL := [(.int (1 : Int32))]) (rest := [(.int (1 : Int32))]) (lenOf pd_52 rfl) rfl (by show 2 * 0 + _ ≤ _; exact Nat.le_of_eq rfl) (hb hby at_222) (fun _ _ => ⟨rfl, e2382, (by decide : 21 + 0 ≤ _), (by decide : 63 + 0 ≤ _)⟩)
        dsimp only [Pt.U, Pt.locs, Pt.cells, Pt.slots] at X2385 l2385 y2385 z2385 st2385 hQ2385
        replace l2385 := l2385.symm
        replace y2385 : 21 = k2385 := y2385.symm
        replace z2385 : 63 = n2385 := z2385.symm
        subst l2385 y2385 z2385
        obtain ⟨rfl, M2385, e2385⟩ := hQ2385
        have N2385 := Fr.app N2382 M2385
        have pre2386 : ∀ t, Steps p.tables e below (T2385.setTop (mkF m 225 #[iv p0, iv p1, iv p2, iv p3, iv (3 : Int32), iv ln, rv r_1920, rv r_1923, iv s0, rv r_1930, rv r_1935, iv s1, rv r_1944, rv r_1951, iv s2, rv b1963, iv (1 : Int32), iv (1 : Int32)] [(.int (1 : Int32)), (.int (1 : Int32))])) t → Steps p.tables e below (s₁.setTop (entryFrame m #[(.int p0), (.int p1), (.int p2), (.int p3)] maxLocals)) t := fun t kt => pre2384 _ (st2385 _ kt)
        have pre2387 : ∀ t, Steps p.tables e below (T2385.setTop (mkF m 247 #[iv p0, iv p1, iv p2, iv p3, iv (3 : Int32), iv ln, rv r_1920, rv r_1923, iv s0, rv r_1930, rv r_1935, iv s1, rv r_1944, rv r_1951, iv s2, rv b1963, iv (1 : Int32), iv (1 : Int32)] [(.ref r_1951), (.ref r_1944), (.ref b1963)])) t → Steps p.tables e below (s₁.setTop (entryFrame m #[(.int p0), (.int p1), (.int p2), (.int p3)] maxLocals)) t := fun t kt => by
          refine pre2386 _ ?_
          show Steps p.tables e below (T2385.setTop (mkF m 225 #[iv p0, iv p1, iv p2, iv p3, iv (3 : Int32), iv ln, rv r_1920, rv r_1923, iv s0, rv r_1930, rv r_1935, iv s1, rv r_1944, rv r_1951, iv s2, rv b1963, iv (1 : Int32), iv (1 : Int32)] [(.int (1 : Int32)), (.int (1 : Int32))])) _
          refine XS.icmpNo X2385.here hx rfl (hb hby at_225) rfl (XT.ii_ne_f (by decide)) ?_
          refine XS.iconst X2385.here hx rfl (hb hby at_228) ?_
          refine XS.goto X2385.here hx rfl (pc0 := 229) (pc' := 233) rfl (hb hby at_229) (by decide) (by decide) ?_
          refine XS.istore X2385.here hx rfl (hb hby at_233) rfl (l' := #[iv p0, iv p1, iv p2, iv p3, iv (3 : Int32), iv ln, rv r_1920, rv r_1923, iv s0, rv r_1930, rv r_1935, iv s1, rv r_1944, rv r_1951, iv s2, rv b1963, iv (1 : Int32), iv (1 : Int32)]) rfl ?_
          refine XS.iload X2385.here hx rfl (hb hby at_235) rfl ?_
          refine XS.iconst X2385.here hx rfl (hb hby at_237) ?_
          refine XS.icmpNo X2385.here hx rfl (hb hby at_238) rfl (XT.ii_lt_f (by decide)) ?_
          refine XS.aload X2385.here hx rfl (hb hby at_241) rfl rfl ?_
          show Steps p.tables e below (T2385.setTop (mkF m 243 #[iv p0, iv p1, iv p2, iv p3, iv (3 : Int32), iv ln, rv r_1920, rv r_1923, iv s0, rv r_1930, rv r_1935, iv s1, rv r_1944, rv r_1951, iv s2, rv b1963, iv (1 : Int32), iv (1 : Int32)] [(.ref b1963)])) _
          refine XS.aload X2385.here hx rfl (hb hby at_243) rfl rfl ?_
          refine XS.aload X2385.here hx rfl (hb hby at_245) rfl rfl ?_
          exact kt
        obtain ⟨cq2388, kq2388, q2388a, q2388b, q2388c⟩ := isOf hZ e2385 J2336_0
        obtain ⟨_, _, ⟨T2388, L2388, k2388, n2388⟩, -, X2388, ⟨Lc2388, hQ2388, l2388, y2388, z2388⟩, st2388⟩ := X2385.virtualBack hx (y := (⟨"com/example/homethread/homethread/cli/ScenarioReport", "expectLine", "(Ljava/lang/String;Ljava/lang/String;)V"⟩ : MethodName)) (z := (⟨"com/example/homethread/homethread/cli/ScenarioReport", "expectLine", "(Ljava/lang/String;Ljava/lang/String;)V"⟩ : MethodName)) hown (mvT hZ (W 89 rfl)) (mvT hZ (W 90 rfl)) (notFace_of_selects (args := #[]) (mvT hZ (W 92 rfl))) (mvT hZ (W 92 rfl)) (mvT hZ (W 91 rfl)) (by decide) (backOf (W := 0) (rm_line2 l Z a0 hw [] b1963 r_1944 r_1951 cz ad kd b2137_1970 ((((0 : Int32) + (1 : Int32)) + (1 : Int32))) ((1 : Int32)) ((l4 &&& (2 : Int32))) ((own_b ((p2 &&& (255 : Int32)) ^^^ (own_x0 p2)))) ((own_b ((((p2.toUInt32 >>> ((8 : Int32) &&& 31).toUInt32).toInt32) &&& (255 : Int32)) ^^^ (own_x1 p2)))) ((l4 &&& (1 : Int32))) ((own_b (p2 &&& (255 : Int32)))) ((own_b (((p2.toUInt32 >>> ((8 : Int32) &&& 31).toUInt32).toInt32) &&& (255 : Int32)))) na_2324 kna_2324 ((.ref r_1923)) ((.ref r_1935)) h2336 n0 O2336 G0 G1 G2 G3 g_b1963 g_b2137_1970 g_na_2324 J2336_0 J2336_1 F2380 J2336_3 J2336_4 J2336_5 J2336_6 J2336_7 J2336_8 J2336_9 qz (fun q => ne_r_1944_r_1951 q.symm) (Or.inr rfl) ne_b1963_b2137_1970 ne_b1963_na_2324 ne_b2137_1970_na_2324 h1951 XF2338 J1951_0 F1957 zF_b1963 zF_b2137_1970 zF_na_2324) hZ (W 93 rfl) (W 51 rfl) (by decide) (by decide)) q2388a q2388c (g := (mkF m 247 #[iv p0, iv p1, iv p2, iv p3, iv (3 : Int32), iv ln, rv r_1920, rv r_1923, iv s0, rv r_1930, rv r_1935, iv s1, rv r_1944, rv r_1951, iv s2, rv b1963, iv (1 : Int32), iv (1 : Int32)] [(.ref r_1951), (.ref r_1944), (.ref b1963)])) rfl (by rw [hml]; rfl) (Steps.refl _) (argsL := [(.ref r_1944), (.ref r_1951)]) (rest := []) (lenOf pd_53 rfl) rfl (by show 2 * 0 + _ ≤ _; exact Nat.le_of_eq rfl) (hb hby at_247) (fun _ _ => ⟨rfl, e2385, (by decide : 21 + 0 ≤ _), (by decide : 63 + 0 ≤ _)⟩)
        dsimp only [Pt.U, Pt.locs, Pt.cells, Pt.slots] at X2388 l2388 y2388 z2388 st2388 hQ2388
        replace l2388 := l2388.symm
        replace y2388 : 21 = k2388 := y2388.symm
        replace z2388 : 63 = n2388 := z2388.symm
        subst l2388 y2388 z2388
        obtain ⟨rfl, M2388, Kc2388, O2388, J2388_0, J2388_1, J2388_2, J2388_3, J2388_4, J2388_5, J2388_6, J2388_7, J2388_8, J2388_9⟩ := hQ2388
        obtain ⟨h2388, e2388⟩ : ∃ z, T2388.heap = z := ⟨_, rfl⟩
        rw [e2388] at Kc2388 O2388 J2388_0 J2388_1 J2388_2 J2388_3 J2388_4 J2388_5 J2388_6 J2388_7 J2388_8
        have N2388 := Fr.app N2385 M2388
        have K2388 : Keep h0 h2388 [] := K2336.trans Kc2388 (own_all3 (Or.inr sz_b1963) (Or.inr sz_b2137_1970) (Or.inr sz_na_2324))
        have pre2389 : ∀ t, Steps p.tables e below (T2388.setTop (mkF m 250 #[iv p0, iv p1, iv p2, iv p3, iv (3 : Int32), iv ln, rv r_1920, rv r_1923, iv s0, rv r_1930, rv r_1935, iv s1, rv r_1944, rv r_1951, iv s2, rv b1963, iv (1 : Int32), iv (1 : Int32)] [])) t → Steps p.tables e below (s₁.setTop (entryFrame m #[(.int p0), (.int p1), (.int p2), (.int p3)] maxLocals)) t := fun t kt => pre2387 _ (st2388.trans kt)
        have XF2390 : Ext h1951 h2388 := own_ext_keep XF2338 Kc2388 (own_all3 zF_b1963 zF_b2137_1970 zF_na_2324)
        rcases own_sync p2 l4 with ⟨hs2391a, hs2391b⟩ | ⟨hs2391a, hs2391b⟩
        · rw [← hs2] at hs2391a
          have F2392 : Fld Z h2388 b1963 "com/example/homethread/homethread/cli/ScenarioReport" "differs" "Z" (.int (1 : Int32)) := own_fldcast J2388_2 (own_dif0 hs2391b)
          have pre2393 : ∀ t, Steps p.tables e below (T2388.setTop (mkF m 274 #[iv p0, iv p1, iv p2, iv p3, iv (3 : Int32), iv ln, rv r_1920, rv r_1923, iv s0, rv r_1930, rv r_1935, iv s1, rv r_1944, rv r_1951, iv s2, rv b1963, iv (1 : Int32), iv (1 : Int32)] [(.ref b1963)])) t → Steps p.tables e below (s₁.setTop (entryFrame m #[(.int p0), (.int p1), (.int p2), (.int p3)] maxLocals)) t := fun t kt => by
            refine pre2389 _ ?_
            show Steps p.tables e below (T2388.setTop (mkF m 250 #[iv p0, iv p1, iv p2, iv p3, iv (3 : Int32), iv ln, rv r_1920, rv r_1923, iv s0, rv r_1930, rv r_1935, iv s1, rv r_1944, rv r_1951, iv s2, rv b1963, iv (1 : Int32), iv (1 : Int32)] [])) _
            refine XS.iload X2388.here hx rfl (hb hby at_250) rfl ?_
            refine XS.ifYes X2388.here hx rfl (pc0 := 252) (pc' := 260) rfl (hb hby at_252) rfl (XT.i0_ne_t (by decide)) (by decide) (by decide) ?_
            refine XS.iconst X2388.here hx rfl (hb hby at_260) ?_
            refine XS.goto X2388.here hx rfl (pc0 := 261) (pc' := 265) rfl (hb hby at_261) (by decide) (by decide) ?_
            refine XS.istore X2388.here hx rfl (hb hby at_265) rfl (l' := #[iv p0, iv p1, iv p2, iv p3, iv (3 : Int32), iv ln, rv r_1920, rv r_1923, iv s0, rv r_1930, rv r_1935, iv s1, rv r_1944, rv r_1951, iv s2, rv b1963, iv (1 : Int32), iv (1 : Int32)]) rfl ?_
            refine XS.iload X2388.here hx rfl (hb hby at_267) rfl ?_
            refine XS.ifNo X2388.here hx rfl (hb hby at_269) rfl (XT.i0_eq_f (by decide)) ?_
            refine XS.aload X2388.here hx rfl (hb hby at_272) rfl rfl ?_
            exact kt
          obtain ⟨cq2394, kq2394, q2394a, q2394b, q2394c⟩ := isOf hZ e2388 J2388_0
          obtain ⟨_, _, ⟨T2394, L2394, k2394, n2394⟩, -, X2394, ⟨Lc2394, hQ2394, l2394, y2394, z2394⟩, st2394⟩ := X2388.virtualBack hx (y := (⟨"com/example/homethread/homethread/cli/ScenarioReport", "exitStatus", "()I"⟩ : MethodName)) (z := (⟨"com/example/homethread/homethread/cli/ScenarioReport", "exitStatus", "()I"⟩ : MethodName)) hown (mvT hZ (W 82 rfl)) (mvT hZ (W 83 rfl)) (notFace_of_selects (args := #[]) (mvT hZ (W 85 rfl))) (mvT hZ (W 85 rfl)) (mvT hZ (W 84 rfl)) (by decide) (backOf (W := 0) (rm_exitStatus17_1 l Z a0 hw [] b1963 h2388 n0 O2388 F2392) hZ (W 86 rfl) (W 51 rfl) (by decide) (by decide)) q2394a q2394c (g := (mkF m 274 #[iv p0, iv p1, iv p2, iv p3, iv (3 : Int32), iv ln, rv r_1920, rv r_1923, iv s0, rv r_1930, rv r_1935, iv s1, rv r_1944, rv r_1951, iv s2, rv b1963, iv (1 : Int32), iv (1 : Int32)] [(.ref b1963)])) rfl (by rw [hml]; rfl) (Steps.refl _) (argsL := []) (rest := []) (lenOf pd_50 rfl) rfl (by show 2 * 0 + _ ≤ _; exact Nat.le_of_eq rfl) (hb hby at_274) (fun _ _ => ⟨rfl, e2388, (by decide : 21 + 0 ≤ _), (by decide : 63 + 0 ≤ _)⟩)
          dsimp only [Pt.U, Pt.locs, Pt.cells, Pt.slots] at X2394 l2394 y2394 z2394 st2394 hQ2394
          replace l2394 := l2394.symm
          replace y2394 : 21 = k2394 := y2394.symm
          replace z2394 : 63 = n2394 := z2394.symm
          subst l2394 y2394 z2394
          obtain ⟨rfl, M2394, e2394⟩ := hQ2394
          have N2394 := Fr.app N2388 M2394
          have pre2395 : ∀ t, Steps p.tables e below (T2394.setTop (mkF m 277 #[iv p0, iv p1, iv p2, iv p3, iv (3 : Int32), iv ln, rv r_1920, rv r_1923, iv s0, rv r_1930, rv r_1935, iv s1, rv r_1944, rv r_1951, iv s2, rv b1963, iv (1 : Int32), iv (1 : Int32)] [(.int (1 : Int32))])) t → Steps p.tables e below (s₁.setTop (entryFrame m #[(.int p0), (.int p1), (.int p2), (.int p3)] maxLocals)) t := fun t kt => pre2393 _ (st2394.trans kt)
          have pre2396 : ∀ t, Steps p.tables e below (T2394.setTop (mkF m 279 #[iv p0, iv p1, iv p2, iv p3, iv (3 : Int32), iv ln, rv r_1920, rv r_1923, iv s0, rv r_1930, rv r_1935, iv s1, rv r_1944, rv r_1951, iv s2, rv b1963, iv (1 : Int32), iv (1 : Int32)] [(.int (1 : Int32)), (.int (1 : Int32))])) t → Steps p.tables e below (s₁.setTop (entryFrame m #[(.int p0), (.int p1), (.int p2), (.int p3)] maxLocals)) t := fun t kt => by
            refine pre2395 _ ?_
            show Steps p.tables e below (T2394.setTop (mkF m 277 #[iv p0, iv p1, iv p2, iv p3, iv (3 : Int32), iv ln, rv r_1920, rv r_1923, iv s0, rv r_1930, rv r_1935, iv s1, rv r_1944, rv r_1951, iv s2, rv b1963, iv (1 : Int32), iv (1 : Int32)] [(.int (1 : Int32))])) _
            refine XS.iload X2394.here hx rfl (hb hby at_277) rfl ?_
            exact kt
          obtain ⟨_, _, ⟨T2397, L2397, k2397, n2397⟩, -, X2397, ⟨Lc2397, hQ2397, l2397, y2397, z2397⟩, st2397⟩ := Jvm.LawKit.callS X2394 hx (y := (⟨"com/example/homethread/homethread/cli/ScenarioReportExitStatusPinLaw", "want", "(Z)I"⟩ : MethodName)) hown (mvT hZ (W 139 rfl)) (mvT hZ (W 140 rfl)) (mvT hZ (W 2 rfl)) (mvT hZ (W 141 rfl)) (by decide) (backOf (W := 1) (rm_want26_1 l Z a0 hw [] h2388 n0 O2388) hZ (W 141 rfl) (W 2 rfl) (by decide) (by decide)) (g := (mkF m 279 #[iv p0, iv p1, iv p2, iv p3, iv (3 : Int32), iv ln, rv r_1920, rv r_1923, iv s0, rv r_1930, rv r_1935, iv s1, rv r_1944, rv r_1951, iv s2, rv b1963, iv (1 : Int32), iv (1 : Int32)] [(.int (1 : Int32)), (.int (1 : Int32))])) rfl (by rw [hml]; rfl) (argsL := [(.int (1 : Int32))]) (rest := [(.int (1 : Int32))]) (lenOf pd_52 rfl) rfl (by show 2 * 0 + _ ≤ _; exact Nat.le_of_eq rfl) (hb hby at_279) (fun _ _ => ⟨rfl, e2394, (by decide : 21 + 0 ≤ _), (by decide : 63 + 0 ≤ _)⟩)
          dsimp only [Pt.U, Pt.locs, Pt.cells, Pt.slots] at X2397 l2397 y2397 z2397 st2397 hQ2397
          replace l2397 := l2397.symm
          replace y2397 : 21 = k2397 := y2397.symm
          replace z2397 : 63 = n2397 := z2397.symm
          subst l2397 y2397 z2397
          obtain ⟨rfl, M2397, e2397⟩ := hQ2397
          have N2397 := Fr.app N2394 M2397
          have pre2398 : ∀ t, Steps p.tables e below (T2397.setTop (mkF m 282 #[iv p0, iv p1, iv p2, iv p3, iv (3 : Int32), iv ln, rv r_1920, rv r_1923, iv s0, rv r_1930, rv r_1935, iv s1, rv r_1944, rv r_1951, iv s2, rv b1963, iv (1 : Int32), iv (1 : Int32)] [(.int (1 : Int32)), (.int (1 : Int32))])) t → Steps p.tables e below (s₁.setTop (entryFrame m #[(.int p0), (.int p1), (.int p2), (.int p3)] maxLocals)) t := fun t kt => pre2396 _ (st2397 _ kt)
          have pre2399 : ∀ t, Steps p.tables e below (T2397.setTop (mkF m 299 #[iv p0, iv p1, iv p2, iv p3, iv (3 : Int32), iv ln, rv r_1920, rv r_1923, iv s0, rv r_1930, rv r_1935, iv s1, rv r_1944, rv r_1951, iv s2, rv b1963, iv (1 : Int32), iv (1 : Int32)] [(.ref b1963)])) t → Steps p.tables e below (s₁.setTop (entryFrame m #[(.int p0), (.int p1), (.int p2), (.int p3)] maxLocals)) t := fun t kt => by
            refine pre2398 _ ?_
            show Steps p.tables e below (T2397.setTop (mkF m 282 #[iv p0, iv p1, iv p2, iv p3, iv (3 : Int32), iv ln, rv r_1920, rv r_1923, iv s0, rv r_1930, rv r_1935, iv s1, rv r_1944, rv r_1951, iv s2, rv b1963, iv (1 : Int32), iv (1 : Int32)] [(.int (1 : Int32)), (.int (1 : Int32))])) _
            refine XS.icmpNo X2397.here hx rfl (hb hby at_282) rfl (XT.ii_ne_f (by decide)) ?_
            refine XS.iconst X2397.here hx rfl (hb hby at_285) ?_
            refine XS.goto X2397.here hx rfl (pc0 := 286) (pc' := 290) rfl (hb hby at_286) (by decide) (by decide) ?_
            refine XS.istore X2397.here hx rfl (hb hby at_290) rfl (l' := #[iv p0, iv p1, iv p2, iv p3, iv (3 : Int32), iv ln, rv r_1920, rv r_1923, iv s0, rv r_1930, rv r_1935, iv s1, rv r_1944, rv r_1951, iv s2, rv b1963, iv (1 : Int32), iv (1 : Int32)]) rfl ?_
            refine XS.iload X2397.here hx rfl (hb hby at_292) rfl ?_
            refine XS.ifNo X2397.here hx rfl (hb hby at_294) rfl (XT.i0_eq_f (by decide)) ?_
            refine XS.aload X2397.here hx rfl (hb hby at_297) rfl rfl ?_
            exact kt
          obtain ⟨cq2400, kq2400, q2400a, q2400b, q2400c⟩ := isOf hZ e2397 J2388_0
          obtain ⟨_, _, ⟨T2400, L2400, k2400, n2400⟩, -, X2400, ⟨Lc2400, hQ2400, l2400, y2400, z2400⟩, st2400⟩ := X2397.virtualBack hx (y := (⟨"com/example/homethread/homethread/cli/ScenarioReport", "exitStatus", "()I"⟩ : MethodName)) (z := (⟨"com/example/homethread/homethread/cli/ScenarioReport", "exitStatus", "()I"⟩ : MethodName)) hown (mvT hZ (W 82 rfl)) (mvT hZ (W 83 rfl)) (notFace_of_selects (args := #[]) (mvT hZ (W 85 rfl))) (mvT hZ (W 85 rfl)) (mvT hZ (W 84 rfl)) (by decide) (backOf (W := 0) (rm_exitStatus17_1 l Z a0 hw [] b1963 h2388 n0 O2388 F2392) hZ (W 86 rfl) (W 51 rfl) (by decide) (by decide)) q2400a q2400c (g := (mkF m 299 #[iv p0, iv p1, iv p2, iv p3, iv (3 : Int32), iv ln, rv r_1920, rv r_1923, iv s0, rv r_1930, rv r_1935, iv s1, rv r_1944, rv r_1951, iv s2, rv b1963, iv (1 : Int32), iv (1 : Int32)] [(.ref b1963)])) rfl (by rw [hml]; rfl) (Steps.refl _) (argsL := []) (rest := []) (lenOf pd_50 rfl) rfl (by show 2 * 0 + _ ≤ _; exact Nat.le_of_eq rfl) (hb hby at_299) (fun _ _ => ⟨rfl, e2397, (by decide : 21 + 0 ≤ _), (by decide : 63 + 0 ≤ _)⟩)
          dsimp only [Pt.U, Pt.locs, Pt.cells, Pt.slots] at X2400 l2400 y2400 z2400 st2400 hQ2400
          replace l2400 := l2400.symm
          replace y2400 : 21 = k2400 := y2400.symm
          replace z2400 : 63 = n2400 := z2400.symm
          subst l2400 y2400 z2400
          obtain ⟨rfl, M2400, e2400⟩ := hQ2400
          have N2400 := Fr.app N2397 M2400
          have pre2401 : ∀ t, Steps p.tables e below (T2400.setTop (mkF m 302 #[iv p0, iv p1, iv p2, iv p3, iv (3 : Int32), iv ln, rv r_1920, rv r_1923, iv s0, rv r_1930, rv r_1935, iv s1, rv r_1944, rv r_1951, iv s2, rv b1963, iv (1 : Int32), iv (1 : Int32)] [(.int (1 : Int32))])) t → Steps p.tables e below (s₁.setTop (entryFrame m #[(.int p0), (.int p1), (.int p2), (.int p3)] maxLocals)) t := fun t kt => pre2399 _ (st2400.trans kt)
          have pre2402 : ∀ t, Steps p.tables e below (T2400.setTop (mkF m 304 #[iv p0, iv p1, iv p2, iv p3, iv (3 : Int32), iv ln, rv r_1920, rv r_1923, iv s0, rv r_1930, rv r_1935, iv s1, rv r_1944, rv r_1951, iv s2, rv b1963, iv (1 : Int32), iv (1 : Int32)] [(.int (1 : Int32)), (.int (1 : Int32))])) t → Steps p.tables e below (s₁.setTop (entryFrame m #[(.int p0), (.int p1), (.int p2), (.int p3)] maxLocals)) t := fun t kt => by
            refine pre2401 _ ?_
            show Steps p.tables e below (T2400.setTop (mkF m 302 #[iv p0, iv p1, iv p2, iv p3, iv (3 : Int32), iv ln, rv r_1920, rv r_1923, iv s0, rv r_1930, rv r_1935, iv s1, rv r_1944, rv r_1951, iv s2, rv b1963, iv (1 : Int32), iv (1 : Int32)] [(.int (1 : Int32))])) _
            refine XS.iload X2400.here hx rfl (hb hby at_302) rfl ?_
            exact kt
          obtain ⟨_, _, ⟨T2403, L2403, k2403, n2403⟩, -, X2403, ⟨Lc2403, hQ2403, l2403, y2403, z2403⟩, st2403⟩ := Jvm.LawKit.callS X2400 hx (y := (⟨"com/example/homethread/homethread/cli/ScenarioReportExitStatusPinLaw", "want", "(Z)I"⟩ : MethodName)) hown (mvT hZ (W 139 rfl)) (mvT hZ (W 140 rfl)) (mvT hZ (W 2 rfl)) (mvT hZ (W 141 rfl)) (by decide) (backOf (W := 1) (rm_want26_1 l Z a0 hw [] h2388 n0 O2388) hZ (W 141 rfl) (W 2 rfl) (by decide) (by decide)) (g := (mkF m 304 #[iv p0, iv p1, iv p2, iv p3, iv (3 : Int32), iv ln, rv r_1920, rv r_1923, iv s0, rv r_1930, rv r_1935, iv s1, rv r_1944, rv r_1951, iv s2, rv b1963, iv (1 : Int32), iv (1 : Int32)] [(.int (1 : Int32)), (.int (1 : Int32))])) rfl (by rw [hml]; rfl) (argsL := [(.int (1 : Int32))]) (rest := [(.int (1 : Int32))]) (lenOf pd_52 rfl) rfl (by show 2 * 0 + _ ≤ _; exact Nat.le_of_eq rfl) (hb hby at_304) (fun _ _ => ⟨rfl, e2400, (by decide : 21 + 0 ≤ _), (by decide : 63 + 0 ≤ _)⟩)
          dsimp only [Pt.U, Pt.locs, Pt.cells, Pt.slots] at X2403 l2403 y2403 z2403 st2403 hQ2403
          replace l2403 := l2403.symm
          replace y2403 : 21 = k2403 := y2403.symm
          replace z2403 : 63 = n2403 := z2403.symm
          subst l2403 y2403 z2403
          obtain ⟨rfl, M2403, e2403⟩ := hQ2403
          have N2403 := Fr.app N2400 M2403
          have pre2404 : ∀ t, Steps p.tables e below (T2403.setTop (mkF m 307 #[iv p0, iv p1, iv p2, iv p3, iv (3 : Int32), iv ln, rv r_1920, rv r_1923, iv s0, rv r_1930, rv r_1935, iv s1, rv r_1944, rv r_1951, iv s2, rv b1963, iv (1 : Int32), iv (1 : Int32)] [(.int (1 : Int32)), (.int (1 : Int32))])) t → Steps p.tables e below (s₁.setTop (entryFrame m #[(.int p0), (.int p1), (.int p2), (.int p3)] maxLocals)) t := fun t kt => pre2402 _ (st2403 _ kt)
          have pre2405 : ∀ t, Steps p.tables e below (T2403.setTop (mkF m 319 #[iv p0, iv p1, iv p2, iv p3, iv (3 : Int32), iv ln, rv r_1920, rv r_1923, iv s0, rv r_1930, rv r_1935, iv s1, rv r_1944, rv r_1951, iv s2, rv b1963, iv (1 : Int32), iv (1 : Int32)] [(.int (1 : Int32))])) t → Steps p.tables e below (s₁.setTop (entryFrame m #[(.int p0), (.int p1), (.int p2), (.int p3)] maxLocals)) t := fun t kt => by
            refine pre2404 _ ?_
            show Steps p.tables e below (T2403.setTop (mkF m 307 #[iv p0, iv p1, iv p2, iv p3, iv (3 : Int32), iv ln, rv r_1920, rv r_1923, iv s0, rv r_1930, rv r_1935, iv s1, rv r_1944, rv r_1951, iv s2, rv b1963, iv (1 : Int32), iv (1 : Int32)] [(.int (1 : Int32)), (.int (1 : Int32))])) _
            refine XS.icmpNo X2403.here hx rfl (hb hby at_307) rfl (XT.ii_ne_f (by decide)) ?_
            refine XS.iconst X2403.here hx rfl (hb hby at_310) ?_
            refine XS.goto X2403.here hx rfl (pc0 := 311) (pc' := 315) rfl (hb hby at_311) (by decide) (by decide) ?_
            refine XS.istore X2403.here hx rfl (hb hby at_315) rfl (l' := #[iv p0, iv p1, iv p2, iv p3, iv (3 : Int32), iv ln, rv r_1920, rv r_1923, iv s0, rv r_1930, rv r_1935, iv s1, rv r_1944, rv r_1951, iv s2, rv b1963, iv (1 : Int32), iv (1 : Int32)]) rfl ?_
            refine XS.iload X2403.here hx rfl (hb hby at_317) rfl ?_
            exact kt
          obtain ⟨fs, hr, hrun, hended, hW, hsame⟩ := X2403.leave (v := some (.int (1 : Int32))) (fun h => by rw [Bd.returns] at h; cases h)
          refine ⟨_, _, pre2405 _ (retN X2403 hx (t := .boolean) Bd.returns (by simp) (hb hby at_319) hr), hrun, hended, _, _, rfl, ?_, ⟨_, rfl⟩, hW, hsame.mono (by decide) (by decide)⟩
          show Q_law Z p0 p1 p2 p3 cz ad kd h0 n0 _ T2403.heap _
          rw [e2403]
          exact ⟨rfl, N2403⟩
        · rw [← hs2] at hs2391a
          have F2406 : Fld Z h2388 b1963 "com/example/homethread/homethread/cli/ScenarioReport" "differs" "Z" (.int (1 : Int32)) := own_fldcast J2388_2 (own_dif1 hs2391b)
          have pre2407 : ∀ t, Steps p.tables e below (T2388.setTop (mkF m 274 #[iv p0, iv p1, iv p2, iv p3, iv (3 : Int32), iv ln, rv r_1920, rv r_1923, iv s0, rv r_1930, rv r_1935, iv s1, rv r_1944, rv r_1951, iv s2, rv b1963, iv (1 : Int32), iv (1 : Int32)] [(.ref b1963)])) t → Steps p.tables e below (s₁.setTop (entryFrame m #[(.int p0), (.int p1), (.int p2), (.int p3)] maxLocals)) t := fun t kt => by
            refine pre2389 _ ?_
            show Steps p.tables e below (T2388.setTop (mkF m 250 #[iv p0, iv p1, iv p2, iv p3, iv (3 : Int32), iv ln, rv r_1920, rv r_1923, iv s0, rv r_1930, rv r_1935, iv s1, rv r_1944, rv r_1951, iv s2, rv b1963, iv (1 : Int32), iv (1 : Int32)] [])) _
            refine XS.iload X2388.here hx rfl (hb hby at_250) rfl ?_
            refine XS.ifYes X2388.here hx rfl (pc0 := 252) (pc' := 260) rfl (hb hby at_252) rfl (XT.i0_ne_t (by decide)) (by decide) (by decide) ?_
            refine XS.iconst X2388.here hx rfl (hb hby at_260) ?_
            refine XS.goto X2388.here hx rfl (pc0 := 261) (pc' := 265) rfl (hb hby at_261) (by decide) (by decide) ?_
            refine XS.istore X2388.here hx rfl (hb hby at_265) rfl (l' := #[iv p0, iv p1, iv p2, iv p3, iv (3 : Int32), iv ln, rv r_1920, rv r_1923, iv s0, rv r_1930, rv r_1935, iv s1, rv r_1944, rv r_1951, iv s2, rv b1963, iv (1 : Int32), iv (1 : Int32)]) rfl ?_
            refine XS.iload X2388.here hx rfl (hb hby at_267) rfl ?_
            refine XS.ifNo X2388.here hx rfl (hb hby at_269) rfl (XT.i0_eq_f (by decide)) ?_
            refine XS.aload X2388.here hx rfl (hb hby at_272) rfl rfl ?_
            exact kt
          obtain ⟨cq2408, kq2408, q2408a, q2408b, q2408c⟩ := isOf hZ e2388 J2388_0
          obtain ⟨_, _, ⟨T2408, L2408, k2408, n2408⟩, -, X2408, ⟨Lc2408, hQ2408, l2408, y2408, z2408⟩, st2408⟩ := X2388.virtualBack hx (y := (⟨"com/example/homethread/homethread/cli/ScenarioReport", "exitStatus", "()I"⟩ : MethodName)) (z := (⟨"com/example/homethread/homethread/cli/ScenarioReport", "exitStatus", "()I"⟩ : MethodName)) hown (mvT hZ (W 82 rfl)) (mvT hZ (W 83 rfl)) (notFace_of_selects (args := #[]) (mvT hZ (W 85 rfl))) (mvT hZ (W 85 rfl)) (mvT hZ (W 84 rfl)) (by decide) (backOf (W := 0) (rm_exitStatus17_1 l Z a0 hw [] b1963 h2388 n0 O2388 F2406) hZ (W 86 rfl) (W 51 rfl) (by decide) (by decide)) q2408a q2408c (g := (mkF m 274 #[iv p0, iv p1, iv p2, iv p3, iv (3 : Int32), iv ln, rv r_1920, rv r_1923, iv s0, rv r_1930, rv r_1935, iv s1, rv r_1944, rv r_1951, iv s2, rv b1963, iv (1 : Int32), iv (1 : Int32)] [(.ref b1963)])) rfl (by rw [hml]; rfl) (Steps.refl _) (argsL := []) (rest := []) (lenOf pd_50 rfl) rfl (by show 2 * 0 + _ ≤ _; exact Nat.le_of_eq rfl) (hb hby at_274) (fun _ _ => ⟨rfl, e2388, (by decide : 21 + 0 ≤ _), (by decide : 63 + 0 ≤ _)⟩)
          dsimp only [Pt.U, Pt.locs, Pt.cells, Pt.slots] at X2408 l2408 y2408 z2408 st2408 hQ2408
          replace l2408 := l2408.symm
          replace y2408 : 21 = k2408 := y2408.symm
          replace z2408 : 63 = n2408 := z2408.symm
          subst l2408 y2408 z2408
          obtain ⟨rfl, M2408, e2408⟩ := hQ2408
          have N2408 := Fr.app N2388 M2408
          have pre2409 : ∀ t, Steps p.tables e below (T2408.setTop (mkF m 277 #[iv p0, iv p1, iv p2, iv p3, iv (3 : Int32), iv ln, rv r_1920, rv r_1923, iv s0, rv r_1930, rv r_1935, iv s1, rv r_1944, rv r_1951, iv s2, rv b1963, iv (1 : Int32), iv (1 : Int32)] [(.int (1 : Int32))])) t → Steps p.tables e below (s₁.setTop (entryFrame m #[(.int p0), (.int p1), (.int p2), (.int p3)] maxLocals)) t := fun t kt => pre2407 _ (st2408.trans kt)
          have pre2410 : ∀ t, Steps p.tables e below (T2408.setTop (mkF m 279 #[iv p0, iv p1, iv p2, iv p3, iv (3 : Int32), iv ln, rv r_1920, rv r_1923, iv s0, rv r_1930, rv r_1935, iv s1, rv r_1944, rv r_1951, iv s2, rv b1963, iv (1 : Int32), iv (1 : Int32)] [(.int (1 : Int32)), (.int (1 : Int32))])) t → Steps p.tables e below (s₁.setTop (entryFrame m #[(.int p0), (.int p1), (.int p2), (.int p3)] maxLocals)) t := fun t kt => by
            refine pre2409 _ ?_
            show Steps p.tables e below (T2408.setTop (mkF m 277 #[iv p0, iv p1, iv p2, iv p3, iv (3 : Int32), iv ln, rv r_1920, rv r_1923, iv s0, rv r_1930, rv r_1935, iv s1, rv r_1944, rv r_1951, iv s2, rv b1963, iv (1 : Int32), iv (1 : Int32)] [(.int (1 : Int32))])) _
            refine XS.iload X2408.here hx rfl (hb hby at_277) rfl ?_
            exact kt
          obtain ⟨_, _, ⟨T2411, L2411, k2411, n2411⟩, -, X2411, ⟨Lc2411, hQ2411, l2411, y2411, z2411⟩, st2411⟩ := Jvm.LawKit.callS X2408 hx (y := (⟨"com/example/homethread/homethread/cli/ScenarioReportExitStatusPinLaw", "want", "(Z)I"⟩ : MethodName)) hown (mvT hZ (W 139 rfl)) (mvT hZ (W 140 rfl)) (mvT hZ (W 2 rfl)) (mvT hZ (W 141 rfl)) (by decide) (backOf (W := 1) (rm_want26_1 l Z a0 hw [] h2388 n0 O2388) hZ (W 141 rfl) (W 2 rfl) (by decide) (by decide)) (g := (mkF m 279 #[iv p0, iv p1, iv p2, iv p3, iv (3 : Int32), iv ln, rv r_1920, rv r_1923, iv s0, rv r_1930, rv r_1935, iv s1, rv r_1944, rv r_1951, iv s2, rv b1963, iv (1 : Int32), iv (1 : Int32)] [(.int (1 : Int32)), (.int (1 : Int32))])) rfl (by rw [hml]; rfl) (argsL := [(.int (1 : Int32))]) (rest := [(.int (1 : Int32))]) (lenOf pd_52 rfl) rfl (by show 2 * 0 + _ ≤ _; exact Nat.le_of_eq rfl) (hb hby at_279) (fun _ _ => ⟨rfl, e2408, (by decide : 21 + 0 ≤ _), (by decide : 63 + 0 ≤ _)⟩)
          dsimp only [Pt.U, Pt.locs, Pt.cells, Pt.slots] at X2411 l2411 y2411 z2411 st2411 hQ2411
          replace l2411 := l2411.symm
          replace y2411 : 21 = k2411 := y2411.symm
          replace z2411 : 63 = n2411 := z2411.symm
          subst l2411 y2411 z2411
          obtain ⟨rfl, M2411, e2411⟩ := hQ2411
          have N2411 := Fr.app N2408 M2411
          have pre2412 : ∀ t, Steps p.tables e below (T2411.setTop (mkF m 282 #[iv p0, iv p1, iv p2, iv p3, iv (3 : Int32), iv ln, rv r_1920, rv r_1923, iv s0, rv r_1930, rv r_1935, iv s1, rv r_1944, rv r_1951, iv s2, rv b1963, iv (1 : Int32), iv (1 : Int32)] [(.int (1 : Int32)), (.int (1 : Int32))])) t → Steps p.tables e below (s₁.setTop (entryFrame m #[(.int p0), (.int p1), (.int p2), (.int p3)] maxLocals)) t := fun t kt => pre2410 _ (st2411 _ kt)
          have pre2413 : ∀ t, Steps p.tables e below (T2411.setTop (mkF m 299 #[iv p0, iv p1, iv p2, iv p3, iv (3 : Int32), iv ln, rv r_1920, rv r_1923, iv s0, rv r_1930, rv r_1935, iv s1, rv r_1944, rv r_1951, iv s2, rv b1963, iv (1 : Int32), iv (1 : Int32)] [(.ref b1963)])) t → Steps p.tables e below (s₁.setTop (entryFrame m #[(.int p0), (.int p1), (.int p2), (.int p3)] maxLocals)) t := fun t kt => by
            refine pre2412 _ ?_
            show Steps p.tables e below (T2411.setTop (mkF m 282 #[iv p0, iv p1, iv p2, iv p3, iv (3 : Int32), iv ln, rv r_1920, rv r_1923, iv s0, rv r_1930, rv r_1935, iv s1, rv r_1944, rv r_1951, iv s2, rv b1963, iv (1 : Int32), iv (1 : Int32)] [(.int (1 : Int32)), (.int (1 : Int32))])) _
            refine XS.icmpNo X2411.here hx rfl (hb hby at_282) rfl (XT.ii_ne_f (by decide)) ?_
            refine XS.iconst X2411.here hx rfl (hb hby at_285) ?_
            refine XS.goto X2411.here hx rfl (pc0 := 286) (pc' := 290) rfl (hb hby at_286) (by decide) (by decide) ?_
            refine XS.istore X2411.here hx rfl (hb hby at_290) rfl (l' := #[iv p0, iv p1, iv p2, iv p3, iv (3 : Int32), iv ln, rv r_1920, rv r_1923, iv s0, rv r_1930, rv r_1935, iv s1, rv r_1944, rv r_1951, iv s2, rv b1963, iv (1 : Int32), iv (1 : Int32)]) rfl ?_
            refine XS.iload X2411.here hx rfl (hb hby at_292) rfl ?_
            refine XS.ifNo X2411.here hx rfl (hb hby at_294) rfl (XT.i0_eq_f (by decide)) ?_
            refine XS.aload X2411.here hx rfl (hb hby at_297) rfl rfl ?_
            exact kt
          obtain ⟨cq2414, kq2414, q2414a, q2414b, q2414c⟩ := isOf hZ e2411 J2388_0
          obtain ⟨_, _, ⟨T2414, L2414, k2414, n2414⟩, -, X2414, ⟨Lc2414, hQ2414, l2414, y2414, z2414⟩, st2414⟩ := X2411.virtualBack hx (y := (⟨"com/example/homethread/homethread/cli/ScenarioReport", "exitStatus", "()I"⟩ : MethodName)) (z := (⟨"com/example/homethread/homethread/cli/ScenarioReport", "exitStatus", "()I"⟩ : MethodName)) hown (mvT hZ (W 82 rfl)) (mvT hZ (W 83 rfl)) (notFace_of_selects (args := #[]) (mvT hZ (W 85 rfl))) (mvT hZ (W 85 rfl)) (mvT hZ (W 84 rfl)) (by decide) (backOf (W := 0) (rm_exitStatus17_1 l Z a0 hw [] b1963 h2388 n0 O2388 F2406) hZ (W 86 rfl) (W 51 rfl) (by decide) (by decide)) q2414a q2414c (g := (mkF m 299 #[iv p0, iv p1, iv p2, iv p3, iv (3 : Int32), iv ln, rv r_1920, rv r_1923, iv s0, rv r_1930, rv r_1935, iv s1, rv r_1944, rv r_1951, iv s2, rv b1963, iv (1 : Int32), iv (1 : Int32)] [(.ref b1963)])) rfl (by rw [hml]; rfl) (Steps.refl _) (argsL := []) (rest := []) (lenOf pd_50 rfl) rfl (by show 2 * 0 + _ ≤ _; exact Nat.le_of_eq rfl) (hb hby at_299) (fun _ _ => ⟨rfl, e2411, (by decide : 21 + 0 ≤ _), (by decide : 63 + 0 ≤ _)⟩)
          dsimp only [Pt.U, Pt.locs, Pt.cells, Pt.slots] at X2414 l2414 y2414 z2414 st2414 hQ2414
          replace l2414 := l2414.symm
          replace y2414 : 21 = k2414 := y2414.symm
          replace z2414 : 63 = n2414 := z2414.symm
          subst l2414 y2414 z2414
          obtain ⟨rfl, M2414, e2414⟩ := hQ2414
          have N2414 := Fr.app N2411 M2414
          have pre2415 : ∀ t, Steps p.tables e below (T2414.setTop (mkF m 302 #[iv p0, iv p1, iv p2, iv p3, iv (3 : Int32), iv ln, rv r_1920, rv r_1923, iv s0, rv r_1930, rv r_1935, iv s1, rv r_1944, rv r_1951, iv s2, rv b1963, iv (1 : Int32), iv (1 : Int32)] [(.int (1 : Int32))])) t → Steps p.tables e below (s₁.setTop (entryFrame m #[(.int p0), (.int p1), (.int p2), (.int p3)] maxLocals)) t := fun t kt => pre2413 _ (st2414.trans kt)
          have pre2416 : ∀ t, Steps p.tables e below (T2414.setTop (mkF m 304 #[iv p0, iv p1, iv p2, iv p3, iv (3 : Int32), iv ln, rv r_1920, rv r_1923, iv s0, rv r_1930, rv r_1935, iv s1, rv r_1944, rv r_1951, iv s2, rv b1963, iv (1 : Int32), iv (1 : Int32)] [(.int (1 : Int32)), (.int (1 : Int32))])) t → Steps p.tables e below (s₁.setTop (entryFrame m #[(.int p0), (.int p1), (.int p2), (.int p3)] maxLocals)) t := fun t kt => by
            refine pre2415 _ ?_
            show Steps p.tables e below (T2414.setTop (mkF m 302 #[iv p0, iv p1, iv p2, iv p3, iv (3 : Int32), iv ln, rv r_1920, rv r_1923, iv s0, rv r_1930, rv r_1935, iv s1, rv r_1944, rv r_1951, iv s2, rv b1963, iv (1 : Int32), iv (1 : Int32)] [(.int (1 : Int32))])) _
            refine XS.iload X2414.here hx rfl (hb hby at_302) rfl ?_
            exact kt
          obtain ⟨_, _, ⟨T2417, L2417, k2417, n2417⟩, -, X2417, ⟨Lc2417, hQ2417, l2417, y2417, z2417⟩, st2417⟩ := Jvm.LawKit.callS X2414 hx (y := (⟨"com/example/homethread/homethread/cli/ScenarioReportExitStatusPinLaw", "want", "(Z)I"⟩ : MethodName)) hown (mvT hZ (W 139 rfl)) (mvT hZ (W 140 rfl)) (mvT hZ (W 2 rfl)) (mvT hZ (W 141 rfl)) (by decide) (backOf (W := 1) (rm_want26_1 l Z a0 hw [] h2388 n0 O2388) hZ (W 141 rfl) (W 2 rfl) (by decide) (by decide)) (g := (mkF m 304 #[iv p0, iv p1, iv p2, iv p3, iv (3 : Int32), iv ln, rv r_1920, rv r_1923, iv s0, rv r_1930, rv r_1935, iv s1, rv r_1944, rv r_1951, iv s2, rv b1963, iv (1 : Int32), iv (1 : Int32)] [(.int (1 : Int32)), (.int (1 : Int32))])) rfl (by rw [hml]; rfl) (argsL := [(.int (1 : Int32))]) (rest := [(.int (1 : Int32))]) (lenOf pd_52 rfl) rfl (by show 2 * 0 + _ ≤ _; exact Nat.le_of_eq rfl) (hb hby at_304) (fun _ _ => ⟨rfl, e2414, (by decide : 21 + 0 ≤ _), (by decide : 63 + 0 ≤ _)⟩)
          dsimp only [Pt.U, Pt.locs, Pt.cells, Pt.slots] at X2417 l2417 y2417 z2417 st2417 hQ2417
          replace l2417 := l2417.symm
          replace y2417 : 21 = k2417 := y2417.symm
          replace z2417 : 63 = n2417 := z2417.symm
          subst l2417 y2417 z2417
          obtain ⟨rfl, M2417, e2417⟩ := hQ2417
          have N2417 := Fr.app N2414 M2417
          have pre2418 : ∀ t, Steps p.tables e below (T2417.setTop (mkF m 307 #[iv p0, iv p1, iv p2, iv p3, iv (3 : Int32), iv ln, rv r_1920, rv r_1923, iv s0, rv r_1930, rv r_1935, iv s1, rv r_1944, rv r_1951, iv s2, rv b1963, iv (1 : Int32), iv (1 : Int32)] [(.int (1 : Int32)), (.int (1 : Int32))])) t → Steps p.tables e below (s₁.setTop (entryFrame m #[(.int p0), (.int p1), (.int p2), (.int p3)] maxLocals)) t := fun t kt => pre2416 _ (st2417 _ kt)
          have pre2419 : ∀ t, Steps p.tables e below (T2417.setTop (mkF m 319 #[iv p0, iv p1, iv p2, iv p3, iv (3 : Int32), iv ln, rv r_1920, rv r_1923, iv s0, rv r_1930, rv r_1935, iv s1, rv r_1944, rv r_1951, iv s2, rv b1963, iv (1 : Int32), iv (1 : Int32)] [(.int (1 : Int32))])) t → Steps p.tables e below (s₁.setTop (entryFrame m #[(.int p0), (.int p1), (.int p2), (.int p3)] maxLocals)) t := fun t kt => by
            refine pre2418 _ ?_
            show Steps p.tables e below (T2417.setTop (mkF m 307 #[iv p0, iv p1, iv p2, iv p3, iv (3 : Int32), iv ln, rv r_1920, rv r_1923, iv s0, rv r_1930, rv r_1935, iv s1, rv r_1944, rv r_1951, iv s2, rv b1963, iv (1 : Int32), iv (1 : Int32)] [(.int (1 : Int32)), (.int (1 : Int32))])) _
            refine XS.icmpNo X2417.here hx rfl (hb hby at_307) rfl (XT.ii_ne_f (by decide)) ?_
            refine XS.iconst X2417.here hx rfl (hb hby at_310) ?_
            refine XS.goto X2417.here hx rfl (pc0 := 311) (pc' := 315) rfl (hb hby at_311) (by decide) (by decide) ?_
            refine XS.istore X2417.here hx rfl (hb hby at_315) rfl (l' := #[iv p0, iv p1, iv p2, iv p3, iv (3 : Int32), iv ln, rv r_1920, rv r_1923, iv s0, rv r_1930, rv r_1935, iv s1, rv r_1944, rv r_1951, iv s2, rv b1963, iv (1 : Int32), iv (1 : Int32)]) rfl ?_
            refine XS.iload X2417.here hx rfl (hb hby at_317) rfl ?_
            exact kt
          obtain ⟨fs, hr, hrun, hended, hW, hsame⟩ := X2417.leave (v := some (.int (1 : Int32))) (fun h => by rw [Bd.returns] at h; cases h)
          refine ⟨_, _, pre2419 _ (retN X2417 hx (t := .boolean) Bd.returns (by simp) (hb hby at_319) hr), hrun, hended, _, _, rfl, ?_, ⟨_, rfl⟩, hW, hsame.mono (by decide) (by decide)⟩
          show Q_law Z p0 p1 p2 p3 cz ad kd h0 n0 _ T2417.heap _
          rw [e2417]
          exact ⟨rfl, N2417⟩
    · rw [← hs0] at hs2327a
      have F2420 : Fld Z h2324 b1963 "com/example/homethread/homethread/cli/ScenarioReport" "differs" "Z" (.int (0 : Int32)) := own_fldcast J2324_2 (own_dif1 hs2327b)
      have pre2421 : ∀ t, Steps p.tables e below (T2324.setTop (mkF m 160 #[iv p0, iv p1, iv p2, iv p3, iv (3 : Int32), iv ln, rv r_1920, rv r_1923, iv s0, rv r_1930, rv r_1935, iv s1, rv r_1944, rv r_1951, iv s2, rv b1963, iv (1 : Int32), iv (0 : Int32)] [(.ref b1963)])) t → Steps p.tables e below (s₁.setTop (entryFrame m #[(.int p0), (.int p1), (.int p2), (.int p3)] maxLocals)) t := fun t kt => by
        refine pre2325 _ ?_
        show Steps p.tables e below (T2324.setTop (mkF m 136 #[iv p0, iv p1, iv p2, iv p3, iv (3 : Int32), iv ln, rv r_1920, rv r_1923, iv s0, rv r_1930, rv r_1935, iv s1, rv r_1944, rv r_1951, iv s2, rv b1963, iv (1 : Int32), iv (0 : Int32)] [])) _
        refine XS.iload X2324.here hx rfl (hb hby at_136) rfl ?_
        refine XS.ifNo X2324.here hx rfl (hb hby at_138) rfl (XT.i0_ne_f (by decide)) ?_
        refine XS.iload X2324.here hx rfl (hb hby at_141) rfl ?_
        refine XS.ifYes X2324.here hx rfl (pc0 := 143) (pc' := 150) rfl (hb hby at_143) rfl (XT.i0_ne_t hs2327a) (by decide) (by decide) ?_
        refine XS.iconst X2324.here hx rfl (hb hby at_150) ?_
        refine XS.istore X2324.here hx rfl (hb hby at_151) rfl (l' := #[iv p0, iv p1, iv p2, iv p3, iv (3 : Int32), iv ln, rv r_1920, rv r_1923, iv s0, rv r_1930, rv r_1935, iv s1, rv r_1944, rv r_1951, iv s2, rv b1963, iv (1 : Int32), iv (0 : Int32)]) rfl ?_
        refine XS.iload X2324.here hx rfl (hb hby at_153) rfl ?_
        refine XS.ifNo X2324.here hx rfl (hb hby at_155) rfl (XT.i0_eq_f (by decide)) ?_
        show Steps p.tables e below (T2324.setTop (mkF m 158 #[iv p0, iv p1, iv p2, iv p3, iv (3 : Int32), iv ln, rv r_1920, rv r_1923, iv s0, rv r_1930, rv r_1935, iv s1, rv r_1944, rv r_1951, iv s2, rv b1963, iv (1 : Int32), iv (0 : Int32)] [])) _
        refine XS.aload X2324.here hx rfl (hb hby at_158) rfl rfl ?_
        exact kt
      obtain ⟨cq2422, kq2422, q2422a, q2422b, q2422c⟩ := isOf hZ e2324 J2324_0
      obtain ⟨_, _, ⟨T2422, L2422, k2422, n2422⟩, -, X2422, ⟨Lc2422, hQ2422, l2422, y2422, z2422⟩, st2422⟩ := X2324.virtualBack hx (y := (⟨"com/example/homethread/homethread/cli/ScenarioReport", "exitStatus", "()I"⟩ : MethodName)) (z := (⟨"com/example/homethread/homethread/cli/ScenarioReport", "exitStatus", "()I"⟩ : MethodName)) hown (mvT hZ (W 82 rfl)) (mvT hZ (W 83 rfl)) (notFace_of_selects (args := #[]) (mvT hZ (W 85 rfl))) (mvT hZ (W 85 rfl)) (mvT hZ (W 84 rfl)) (by decide) (backOf (W := 0) (rm_exitStatus17_0 l Z a0 hw [] b1963 h2324 n0 O2324 F2420) hZ (W 86 rfl) (W 51 rfl) (by decide) (by decide)) q2422a q2422c (g := (mkF m 160 #[iv p0, iv p1, iv p2, iv p3, iv (3 : Int32), iv ln, rv r_1920, rv r_1923, iv s0, rv r_1930, rv r_1935, iv s1, rv r_1944, rv r_1951, iv s2, rv b1963, iv (1 : Int32), iv (0 : Int32)] [(.ref b1963)])) rfl (by rw [hml]; rfl) (Steps.refl _) (argsL := []) (rest := []) (lenOf pd_50 rfl) rfl (by show 2 * 0 + _ ≤ _; exact Nat.le_of_eq rfl) (hb hby at_160) (fun _ _ => ⟨rfl, e2324, (by decide : 21 + 0 ≤ _), (by decide : 63 + 0 ≤ _)⟩)
      dsimp only [Pt.U, Pt.locs, Pt.cells, Pt.slots] at X2422 l2422 y2422 z2422 st2422 hQ2422
      replace l2422 := l2422.symm
      replace y2422 : 21 = k2422 := y2422.symm
      replace z2422 : 63 = n2422 := z2422.symm
      subst l2422 y2422 z2422
      obtain ⟨rfl, M2422, e2422⟩ := hQ2422
      have N2422 := Fr.app N2324 M2422
      have pre2423 : ∀ t, Steps p.tables e below (T2422.setTop (mkF m 163 #[iv p0, iv p1, iv p2, iv p3, iv (3 : Int32), iv ln, rv r_1920, rv r_1923, iv s0, rv r_1930, rv r_1935, iv s1, rv r_1944, rv r_1951, iv s2, rv b1963, iv (1 : Int32), iv (0 : Int32)] [(.int (0 : Int32))])) t → Steps p.tables e below (s₁.setTop (entryFrame m #[(.int p0), (.int p1), (.int p2), (.int p3)] maxLocals)) t := fun t kt => pre2421 _ (st2422.trans kt)
      have pre2424 : ∀ t, Steps p.tables e below (T2422.setTop (mkF m 165 #[iv p0, iv p1, iv p2, iv p3, iv (3 : Int32), iv ln, rv r_1920, rv r_1923, iv s0, rv r_1930, rv r_1935, iv s1, rv r_1944, rv r_1951, iv s2, rv b1963, iv (1 : Int32), iv (0 : Int32)] [(.int (0 : Int32)), (.int (0 : Int32))])) t → Steps p.tables e below (s₁.setTop (entryFrame m #[(.int p0), (.int p1), (.int p2), (.int p3)] maxLocals)) t := fun t kt => by
        refine pre2423 _ ?_
        show Steps p.tables e below (T2422.setTop (mkF m 163 #[iv p0, iv p1, iv p2, iv p3, iv (3 : Int32), iv ln, rv r_1920, rv r_1923, iv s0, rv r_1930, rv r_1935, iv s1, rv r_1944, rv r_1951, iv s2, rv b1963, iv (1 : Int32), iv (0 : Int32)] [(.int (0 : Int32))])) _
        refine XS.iload X2422.here hx rfl (hb hby at_163) rfl ?_
        exact kt
      obtain ⟨_, _, ⟨T2425, L2425, k2425, n2425⟩, -, X2425, ⟨Lc2425, hQ2425, l2425, y2425, z2425⟩, st2425⟩ := Jvm.LawKit.callS X2422 hx (y := (⟨"com/example/homethread/homethread/cli/ScenarioReportExitStatusPinLaw", "want", "(Z)I"⟩ : MethodName)) hown (mvT hZ (W 139 rfl)) (mvT hZ (W 140 rfl)) (mvT hZ (W 2 rfl)) (mvT hZ (W 141 rfl)) (by decide) (backOf (W := 1) (rm_want26_0 l Z a0 hw [] h2324 n0 O2324) hZ (W 141 rfl) (W 2 rfl) (by decide) (by decide)) (g := (mkF m 165 #[iv p0, iv p1, iv p2, iv p3, iv (3 : Int32), iv ln, rv r_1920, rv r_1923, iv s0, rv r_1930, rv r_1935, iv s1, rv r_1944, rv r_1951, iv s2, rv b1963, iv (1 : Int32), iv (0 : Int32)] [(.int (0 : Int32)), (.int (0 : Int32))])) rfl (by rw [hml]; rfl) (argsL := [(.int (0 : Int32))]) (rest := [(.int (0 : Int32))]) (lenOf pd_52 rfl) rfl (by show 2 * 0 + _ ≤ _; exact Nat.le_of_eq rfl) (hb hby at_165) (fun _ _ => ⟨rfl, e2422, (by decide : 21 + 0 ≤ _), (by decide : 63 + 0 ≤ _)⟩)
      dsimp only [Pt.U, Pt.locs, Pt.cells, Pt.slots] at X2425 l2425 y2425 z2425 st2425 hQ2425
      replace l2425 := l2425.symm
      replace y2425 : 21 = k2425 := y2425.symm
      replace z2425 : 63 = n2425 := z2425.symm
      subst l2425 y2425 z2425
      obtain ⟨rfl, M2425, e2425⟩ := hQ2425
      have N2425 := Fr.app N2422 M2425
      have pre2426 : ∀ t, Steps p.tables e below (T2425.setTop (mkF m 168 #[iv p0, iv p1, iv p2, iv p3, iv (3 : Int32), iv ln, rv r_1920, rv r_1923, iv s0, rv r_1930, rv r_1935, iv s1, rv r_1944, rv r_1951, iv s2, rv b1963, iv (1 : Int32), iv (0 : Int32)] [(.int (0 : Int32)), (.int (0 : Int32))])) t → Steps p.tables e below (s₁.setTop (entryFrame m #[(.int p0), (.int p1), (.int p2), (.int p3)] maxLocals)) t := fun t kt => pre2424 _ (st2425 _ kt)
      have pre2427 : ∀ t, Steps p.tables e below (T2425.setTop (mkF m 190 #[iv p0, iv p1, iv p2, iv p3, iv (3 : Int32), iv ln, rv r_1920, rv r_1923, iv s0, rv r_1930, rv r_1935, iv s1, rv r_1944, rv r_1951, iv s2, rv b1963, iv (1 : Int32), iv (0 : Int32)] [(.ref r_1935), (.ref r_1930), (.ref b1963)])) t → Steps p.tables e below (s₁.setTop (entryFrame m #[(.int p0), (.int p1), (.int p2), (.int p3)] maxLocals)) t := fun t kt => by
        refine pre2426 _ ?_
        show Steps p.tables e below (T2425.setTop (mkF m 168 #[iv p0, iv p1, iv p2, iv p3, iv (3 : Int32), iv ln, rv r_1920, rv r_1923, iv s0, rv r_1930, rv r_1935, iv s1, rv r_1944, rv r_1951, iv s2, rv b1963, iv (1 : Int32), iv (0 : Int32)] [(.int (0 : Int32)), (.int (0 : Int32))])) _
        refine XS.icmpNo X2425.here hx rfl (hb hby at_168) rfl (XT.ii_ne_f (by decide)) ?_
        refine XS.iconst X2425.here hx rfl (hb hby at_171) ?_
        refine XS.goto X2425.here hx rfl (pc0 := 172) (pc' := 176) rfl (hb hby at_172) (by decide) (by decide) ?_
        refine XS.istore X2425.here hx rfl (hb hby at_176) rfl (l' := #[iv p0, iv p1, iv p2, iv p3, iv (3 : Int32), iv ln, rv r_1920, rv r_1923, iv s0, rv r_1930, rv r_1935, iv s1, rv r_1944, rv r_1951, iv s2, rv b1963, iv (1 : Int32), iv (0 : Int32)]) rfl ?_
        refine XS.iload X2425.here hx rfl (hb hby at_178) rfl ?_
        refine XS.iconst X2425.here hx rfl (hb hby at_180) ?_
        refine XS.icmpNo X2425.here hx rfl (hb hby at_181) rfl (XT.ii_lt_f (by decide)) ?_
        refine XS.aload X2425.here hx rfl (hb hby at_184) rfl rfl ?_
        show Steps p.tables e below (T2425.setTop (mkF m 186 #[iv p0, iv p1, iv p2, iv p3, iv (3 : Int32), iv ln, rv r_1920, rv r_1923, iv s0, rv r_1930, rv r_1935, iv s1, rv r_1944, rv r_1951, iv s2, rv b1963, iv (1 : Int32), iv (0 : Int32)] [(.ref b1963)])) _
        refine XS.aload X2425.here hx rfl (hb hby at_186) rfl rfl ?_
        refine XS.aload X2425.here hx rfl (hb hby at_188) rfl rfl ?_
        exact kt
      obtain ⟨cq2428, kq2428, q2428a, q2428b, q2428c⟩ := isOf hZ e2425 J2324_0
      obtain ⟨_, _, ⟨T2428, L2428, k2428, n2428⟩, -, X2428, ⟨Lc2428, hQ2428, l2428, y2428, z2428⟩, st2428⟩ := X2425.virtualBack hx (y := (⟨"com/example/homethread/homethread/cli/ScenarioReport", "expectLine", "(Ljava/lang/String;Ljava/lang/String;)V"⟩ : MethodName)) (z := (⟨"com/example/homethread/homethread/cli/ScenarioReport", "expectLine", "(Ljava/lang/String;Ljava/lang/String;)V"⟩ : MethodName)) hown (mvT hZ (W 89 rfl)) (mvT hZ (W 90 rfl)) (notFace_of_selects (args := #[]) (mvT hZ (W 92 rfl))) (mvT hZ (W 92 rfl)) (mvT hZ (W 91 rfl)) (by decide) (backOf (W := 0) (rm_line1 l Z a0 hw [] b1963 r_1930 r_1935 cz ad kd b2137_1970 (((0 : Int32) + (1 : Int32))) ((0 : Int32)) ((l2 &&& (2 : Int32))) ((own_b ((p1 &&& (255 : Int32)) ^^^ (own_x0 p1)))) ((own_b ((((p1.toUInt32 >>> ((8 : Int32) &&& 31).toUInt32).toInt32) &&& (255 : Int32)) ^^^ (own_x1 p1)))) ((l2 &&& (1 : Int32))) ((own_b (p1 &&& (255 : Int32)))) ((own_b (((p1.toUInt32 >>> ((8 : Int32) &&& 31).toUInt32).toInt32) &&& (255 : Int32)))) na_2324 kna_2324 ((.ref r_1923)) h2324 n0 O2324 G0 G1 G2 G3 g_b1963 g_b2137_1970 g_na_2324 J2324_0 J2324_1 F2420 J2324_3 J2324_4 J2324_5 J2324_6 J2324_7 J2324_8 J2324_9 qz (fun q => ne_r_1930_r_1935 q.symm) (Or.inl rfl) ne_b1963_b2137_1970 ne_b1963_na_2324 ne_b2137_1970_na_2324 h1951 XF2326 F1956 F1955 zF_b1963 zF_b2137_1970 zF_na_2324) hZ (W 93 rfl) (W 51 rfl) (by decide) (by decide)) q2428a q2428c (g := (mkF m 190 #[iv p0, iv p1, iv p2, iv p3, iv (3 : Int32), iv ln, rv r_1920, rv r_1923, iv s0, rv r_1930, rv r_1935, iv s1, rv r_1944, rv r_1951, iv s2, rv b1963, iv (1 : Int32), iv (0 : Int32)] [(.ref r_1935), (.ref r_1930), (.ref b1963)])) rfl (by rw [hml]; rfl) (Steps.refl _) (argsL := [(.ref r_1930), (.ref r_1935)]) (rest := []) (lenOf pd_53 rfl) rfl (by show 2 * 0 + _ ≤ _; exact Nat.le_of_eq rfl) (hb hby at_190) (fun _ _ => ⟨rfl, e2425, (by decide : 21 + 0 ≤ _), (by decide : 63 + 0 ≤ _)⟩)
      dsimp only [Pt.U, Pt.locs, Pt.cells, Pt.slots] at X2428 l2428 y2428 z2428 st2428 hQ2428
      replace l2428 := l2428.symm
      replace y2428 : 21 = k2428 := y2428.symm
      replace z2428 : 63 = n2428 := z2428.symm
      subst l2428 y2428 z2428
      obtain ⟨rfl, M2428, Kc2428, O2428, J2428_0, J2428_1, J2428_2, J2428_3, J2428_4, J2428_5, J2428_6, J2428_7, J2428_8, J2428_9⟩ := hQ2428
      obtain ⟨h2428, e2428⟩ : ∃ z, T2428.heap = z := ⟨_, rfl⟩
      rw [e2428] at Kc2428 O2428 J2428_0 J2428_1 J2428_2 J2428_3 J2428_4 J2428_5 J2428_6 J2428_7 J2428_8
      have N2428 := Fr.app N2425 M2428
      have K2428 : Keep h0 h2428 [] := K2324.trans Kc2428 (own_all3 (Or.inr sz_b1963) (Or.inr sz_b2137_1970) (Or.inr sz_na_2324))
      have pre2429 : ∀ t, Steps p.tables e below (T2428.setTop (mkF m 193 #[iv p0, iv p1, iv p2, iv p3, iv (3 : Int32), iv ln, rv r_1920, rv r_1923, iv s0, rv r_1930, rv r_1935, iv s1, rv r_1944, rv r_1951, iv s2, rv b1963, iv (1 : Int32), iv (0 : Int32)] [])) t → Steps p.tables e below (s₁.setTop (entryFrame m #[(.int p0), (.int p1), (.int p2), (.int p3)] maxLocals)) t := fun t kt => pre2427 _ (st2428.trans kt)
      have XF2430 : Ext h1951 h2428 := own_ext_keep XF2326 Kc2428 (own_all3 zF_b1963 zF_b2137_1970 zF_na_2324)
      rcases own_sync p1 l2 with ⟨hs2431a, hs2431b⟩ | ⟨hs2431a, hs2431b⟩
      · rw [← hs1] at hs2431a
        have F2432 : Fld Z h2428 b1963 "com/example/homethread/homethread/cli/ScenarioReport" "differs" "Z" (.int (1 : Int32)) := own_fldcast J2428_2 (own_dif0 hs2431b)
        have pre2433 : ∀ t, Steps p.tables e below (T2428.setTop (mkF m 217 #[iv p0, iv p1, iv p2, iv p3, iv (3 : Int32), iv ln, rv r_1920, rv r_1923, iv s0, rv r_1930, rv r_1935, iv s1, rv r_1944, rv r_1951, iv s2, rv b1963, iv (1 : Int32), iv (1 : Int32)] [(.ref b1963)])) t → Steps p.tables e below (s₁.setTop (entryFrame m #[(.int p0), (.int p1), (.int p2), (.int p3)] maxLocals)) t := fun t kt => by
          refine pre2429 _ ?_
          show Steps p.tables e below (T2428.setTop (mkF m 193 #[iv p0, iv p1, iv p2, iv p3, iv (3 : Int32), iv ln, rv r_1920, rv r_1923, iv s0, rv r_1930, rv r_1935, iv s1, rv r_1944, rv r_1951, iv s2, rv b1963, iv (1 : Int32), iv (0 : Int32)] [])) _
          refine XS.iload X2428.here hx rfl (hb hby at_193) rfl ?_
          refine XS.ifNo X2428.here hx rfl (hb hby at_195) rfl (XT.i0_ne_f (by decide)) ?_
          refine XS.iload X2428.here hx rfl (hb hby at_198) rfl ?_
          refine XS.ifNo X2428.here hx rfl (hb hby at_200) rfl (XT.i0_ne_f hs2431a) ?_
          refine XS.iconst X2428.here hx rfl (hb hby at_203) ?_
          refine XS.goto X2428.here hx rfl (pc0 := 204) (pc' := 208) rfl (hb hby at_204) (by decide) (by decide) ?_
          refine XS.istore X2428.here hx rfl (hb hby at_208) rfl (l' := #[iv p0, iv p1, iv p2, iv p3, iv (3 : Int32), iv ln, rv r_1920, rv r_1923, iv s0, rv r_1930, rv r_1935, iv s1, rv r_1944, rv r_1951, iv s2, rv b1963, iv (1 : Int32), iv (1 : Int32)]) rfl ?_
          refine XS.iload X2428.here hx rfl (hb hby at_210) rfl ?_
          show Steps p.tables e below (T2428.setTop (mkF m 212 #[iv p0, iv p1, iv p2, iv p3, iv (3 : Int32), iv ln, rv r_1920, rv r_1923, iv s0, rv r_1930, rv r_1935, iv s1, rv r_1944, rv r_1951, iv s2, rv b1963, iv (1 : Int32), iv (1 : Int32)] [(.int (1 : Int32))])) _
          refine XS.ifNo X2428.here hx rfl (hb hby at_212) rfl (XT.i0_eq_f (by decide)) ?_
          refine XS.aload X2428.here hx rfl (hb hby at_215) rfl rfl ?_
          exact kt
        obtain ⟨cq2434, kq2434, q2434a, q2434b, q2434c⟩ := isOf hZ e2428 J2428_0
        obtain ⟨_, _, ⟨T2434, L2434, k2434, n2434⟩, -, X2434, ⟨Lc2434, hQ2434, l2434, y2434, z2434⟩, st2434⟩ := X2428.virtualBack hx (y := (⟨"com/example/homethread/homethread/cli/ScenarioReport", "exitStatus", "()I"⟩ : MethodName)) (z := (⟨"com/example/homethread/homethread/cli/ScenarioReport", "exitStatus", "()I"⟩ : MethodName)) hown (mvT hZ (W 82 rfl)) (mvT hZ (W 83 rfl)) (notFace_of_selects (args := #[]) (mvT hZ (W 85 rfl))) (mvT hZ (W 85 rfl)) (mvT hZ (W 84 rfl)) (by decide) (backOf (W := 0) (rm_exitStatus17_1 l Z a0 hw [] b1963 h2428 n0 O2428 F2432) hZ (W 86 rfl) (W 51 rfl) (by decide) (by decide)) q2434a q2434c (g := (mkF m 217 #[iv p0, iv p1, iv p2, iv p3, iv (3 : Int32), iv ln, rv r_1920, rv r_1923, iv s0, rv r_1930, rv r_1935, iv s1, rv r_1944, rv r_1951, iv s2, rv b1963, iv (1 : Int32), iv (1 : Int32)] [(.ref b1963)])) rfl (by rw [hml]; rfl) (Steps.refl _) (argsL := []) (rest := []) (lenOf pd_50 rfl) rfl (by show 2 * 0 + _ ≤ _; exact Nat.le_of_eq rfl) (hb hby at_217) (fun _ _ => ⟨rfl, e2428, (by decide : 21 + 0 ≤ _), (by decide : 63 + 0 ≤ _)⟩)
        dsimp only [Pt.U, Pt.locs, Pt.cells, Pt.slots] at X2434 l2434 y2434 z2434 st2434 hQ2434
        replace l2434 := l2434.symm
        replace y2434 : 21 = k2434 := y2434.symm
        replace z2434 : 63 = n2434 := z2434.symm
        subst l2434 y2434 z2434
        obtain ⟨rfl, M2434, e2434⟩ := hQ2434
        have N2434 := Fr.app N2428 M2434
        have pre2435 : ∀ t, Steps p.tables e below (T2434.setTop (mkF m 220 #[iv p0, iv p1, iv p2, iv p3, iv (3 : Int32), iv ln, rv r_1920, rv r_1923, iv s0, rv r_1930, rv r_1935, iv s1, rv r_1944, rv r_1951, iv s2, rv b1963, iv (1 : Int32), iv (1 : Int32)] [(.int (1 : Int32))])) t → Steps p.tables e below (s₁.setTop (entryFrame m #[(.int p0), (.int p1), (.int p2), (.int p3)] maxLocals)) t := fun t kt => pre2433 _ (st2434.trans kt)
        have pre2436 : ∀ t, Steps p.tables e below (T2434.setTop (mkF m 222 #[iv p0, iv p1, iv p2, iv p3, iv (3 : Int32), iv ln, rv r_1920, rv r_1923, iv s0, rv r_1930, rv r_1935, iv s1, rv r_1944, rv r_1951, iv s2, rv b1963, iv (1 : Int32), iv (1 : Int32)] [(.int (1 : Int32)), (.int (1 : Int32))])) t → Steps p.tables e below (s₁.setTop (entryFrame m #[(.int p0), (.int p1), (.int p2), (.int p3)] maxLocals)) t := fun t kt => by
          refine pre2435 _ ?_
          show Steps p.tables e below (T2434.setTop (mkF m 220 #[iv p0, iv p1, iv p2, iv p3, iv (3 : Int32), iv ln, rv r_1920, rv r_1923, iv s0, rv r_1930, rv r_1935, iv s1, rv r_1944, rv r_1951, iv s2, rv b1963, iv (1 : Int32), iv (1 : Int32)] [(.int (1 : Int32))])) _
          refine XS.iload X2434.here hx rfl (hb hby at_220) rfl ?_
          exact kt
        obtain ⟨_, _, ⟨T2437, L2437, k2437, n2437⟩, -, X2437, ⟨Lc2437, hQ2437, l2437, y2437, z2437⟩, st2437⟩ := Jvm.LawKit.callS X2434 hx (y := (⟨"com/example/homethread/homethread/cli/ScenarioReportExitStatusPinLaw", "want", "(Z)I"⟩ : MethodName)) hown (mvT hZ (W 139 rfl)) (mvT hZ (W 140 rfl)) (mvT hZ (W 2 rfl)) (mvT hZ (W 141 rfl)) (by decide) (backOf (W := 1) (rm_want26_1 l Z a0 hw [] h2428 n0 O2428) hZ (W 141 rfl) (W 2 rfl) (by decide) (by decide)) (g := (mkF m 222 #[iv p0, iv p1, iv p2, iv p3, iv (3 : Int32), iv ln, rv r_1920, rv r_1923, iv s0, rv r_1930, rv r_1935, iv s1, rv r_1944, rv r_1951, iv s2, rv b1963, iv (1 : Int32), iv (1 : Int32)] [(.int (1 : Int32)), (.int (1 : Int32))])) rfl (by rw [hml]; rfl) (argsL := [(.int (1 : Int32))]) (rest := [(.int (1 : Int32))]) (lenOf pd_52 rfl) rfl (by show 2 * 0 + _ ≤ _; exact Nat.le_of_eq rfl) (hb hby at_222) (fun _ _ => ⟨rfl, e2434, (by decide : 21 + 0 ≤ _), (by decide : 63 + 0 ≤ _)⟩)
        dsimp only [Pt.U, Pt.locs, Pt.cells, Pt.slots] at X2437 l2437 y2437 z2437 st2437 hQ2437
        replace l2437 := l2437.symm
        replace y2437 : 21 = k2437 := y2437.symm
        replace z2437 : 63 = n2437 := z2437.symm
        subst l2437 y2437 z2437
        obtain ⟨rfl, M2437, e2437⟩ := hQ2437
        have N2437 := Fr.app N2434 M2437
        have pre2438 : ∀ t, Steps p.tables e below (T2437.setTop (mkF m 225 #[iv p0, iv p1, iv p2, iv p3, iv (3 : Int32), iv ln, rv r_1920, rv r_1923, iv s0, rv r_1930, rv r_1935, iv s1, rv r_1944, rv r_1951, iv s2, rv b1963, iv (1 : Int32), iv (1 : Int32)] [(.int (1 : Int32)), (.int (1 : Int32))])) t → Steps p.tables e below (s₁.setTop (entryFrame m #[(.int p0), (.int p1), (.int p2), (.int p3)] maxLocals)) t := fun t kt => pre2436 _ (st2437 _ kt)
        have pre2439 : ∀ t, Steps p.tables e below (T2437.setTop (mkF m 247 #[iv p0, iv p1, iv p2, iv p3, iv (3 : Int32), iv ln, rv r_1920, rv r_1923, iv s0, rv r_1930, rv r_1935, iv s1, rv r_1944, rv r_1951, iv s2, rv b1963, iv (1 : Int32), iv (1 : Int32)] [(.ref r_1951), (.ref r_1944), (.ref b1963)])) t → Steps p.tables e below (s₁.setTop (entryFrame m #[(.int p0), (.int p1), (.int p2), (.int p3)] maxLocals)) t := fun t kt => by
          refine pre2438 _ ?_
          show Steps p.tables e below (T2437.setTop (mkF m 225 #[iv p0, iv p1, iv p2, iv p3, iv (3 : Int32), iv ln, rv r_1920, rv r_1923, iv s0, rv r_1930, rv r_1935, iv s1, rv r_1944, rv r_1951, iv s2, rv b1963, iv (1 : Int32), iv (1 : Int32)] [(.int (1 : Int32)), (.int (1 : Int32))])) _
          refine XS.icmpNo X2437.here hx rfl (hb hby at_225) rfl (XT.ii_ne_f (by decide)) ?_
          refine XS.iconst X2437.here hx rfl (hb hby at_228) ?_
          refine XS.goto X2437.here hx rfl (pc0 := 229) (pc' := 233) rfl (hb hby at_229) (by decide) (by decide) ?_
          refine XS.istore X2437.here hx rfl (hb hby at_233) rfl (l' := #[iv p0, iv p1, iv p2, iv p3, iv (3 : Int32), iv ln, rv r_1920, rv r_1923, iv s0, rv r_1930, rv r_1935, iv s1, rv r_1944, rv r_1951, iv s2, rv b1963, iv (1 : Int32), iv (1 : Int32)]) rfl ?_
          refine XS.iload X2437.here hx rfl (hb hby at_235) rfl ?_
          refine XS.iconst X2437.here hx rfl (hb hby at_237) ?_
          refine XS.icmpNo X2437.here hx rfl (hb hby at_238) rfl (XT.ii_lt_f (by decide)) ?_
          refine XS.aload X2437.here hx rfl (hb hby at_241) rfl rfl ?_
          show Steps p.tables e below (T2437.setTop (mkF m 243 #[iv p0, iv p1, iv p2, iv p3, iv (3 : Int32), iv ln, rv r_1920, rv r_1923, iv s0, rv r_1930, rv r_1935, iv s1, rv r_1944, rv r_1951, iv s2, rv b1963, iv (1 : Int32), iv (1 : Int32)] [(.ref b1963)])) _
          refine XS.aload X2437.here hx rfl (hb hby at_243) rfl rfl ?_
          refine XS.aload X2437.here hx rfl (hb hby at_245) rfl rfl ?_
          exact kt
        obtain ⟨cq2440, kq2440, q2440a, q2440b, q2440c⟩ := isOf hZ e2437 J2428_0
        obtain ⟨_, _, ⟨T2440, L2440, k2440, n2440⟩, -, X2440, ⟨Lc2440, hQ2440, l2440, y2440, z2440⟩, st2440⟩ := X2437.virtualBack hx (y := (⟨"com/example/homethread/homethread/cli/ScenarioReport", "expectLine", "(Ljava/lang/String;Ljava/lang/String;)V"⟩ : MethodName)) (z := (⟨"com/example/homethread/homethread/cli/ScenarioReport", "expectLine", "(Ljava/lang/String;Ljava/lang/String;)V"⟩ : MethodName)) hown (mvT hZ (W 89 rfl)) (mvT hZ (W 90 rfl)) (notFace_of_selects (args := #[]) (mvT hZ (W 92 rfl))) (mvT hZ (W 92 rfl)) (mvT hZ (W 91 rfl)) (by decide) (backOf (W := 0) (rm_line2 l Z a0 hw [] b1963 r_1944 r_1951 cz ad kd b2137_1970 ((((0 : Int32) + (1 : Int32)) + (1 : Int32))) ((1 : Int32)) ((l4 &&& (2 : Int32))) ((own_b ((p2 &&& (255 : Int32)) ^^^ (own_x0 p2)))) ((own_b ((((p2.toUInt32 >>> ((8 : Int32) &&& 31).toUInt32).toInt32) &&& (255 : Int32)) ^^^ (own_x1 p2)))) ((l4 &&& (1 : Int32))) ((own_b (p2 &&& (255 : Int32)))) ((own_b (((p2.toUInt32 >>> ((8 : Int32) &&& 31).toUInt32).toInt32) &&& (255 : Int32)))) na_2324 kna_2324 ((.ref r_1923)) ((.ref r_1935)) h2428 n0 O2428 G0 G1 G2 G3 g_b1963 g_b2137_1970 g_na_2324 J2428_0 J2428_1 F2432 J2428_3 J2428_4 J2428_5 J2428_6 J2428_7 J2428_8 J2428_9 qz (fun q => ne_r_1944_r_1951 q.symm) (Or.inr rfl) ne_b1963_b2137_1970 ne_b1963_na_2324 ne_b2137_1970_na_2324 h1951 XF2430 J1951_0 F1957 zF_b1963 zF_b2137_1970 zF_na_2324) hZ (W 93 rfl) (W 51 rfl) (by decide) (by decide)) q2440a q2440c (g := (mkF m 247 #[iv p0, iv p1, iv p2, iv p3, iv (3 : Int32), iv ln, rv r_1920, rv r_1923, iv s0, rv r_1930, rv r_1935, iv s1, rv r_1944, rv r_1951, iv s2, rv b1963, iv (1 : Int32), iv (1 : Int32)] [(.ref r_1951), (.ref r_1944), (.ref b1963)])) rfl (by rw [hml]; rfl) (Steps.refl _) (argsL := [(.ref r_1944), (.ref r_1951)]) (rest := []) (lenOf pd_53 rfl) rfl (by show 2 * 0 + _ ≤ _; exact Nat.le_of_eq rfl) (hb hby at_247) (fun _ _ => ⟨rfl, e2437, (by decide : 21 + 0 ≤ _), (by decide : 63 + 0 ≤ _)⟩)
        dsimp only [Pt.U, Pt.locs, Pt.cells, Pt.slots] at X2440 l2440 y2440 z2440 st2440 hQ2440
        replace l2440 := l2440.symm
        replace y2440 : 21 = k2440 := y2440.symm
        replace z2440 : 63 = n2440 := z2440.symm
        subst l2440 y2440 z2440
        obtain ⟨rfl, M2440, Kc2440, O2440, J2440_0, J2440_1, J2440_2, J2440_3, J2440_4, J2440_5, J2440_6, J2440_7, J2440_8, J2440_9⟩ := hQ2440
        obtain ⟨h2440, e2440⟩ : ∃ z, T2440.heap = z := ⟨_, rfl⟩
        rw [e2440] at Kc2440 O2440 J2440_0 J2440_1 J2440_2 J2440_3 J2440_4 J2440_5 J2440_6 J2440_7 J2440_8
        have N2440 := Fr.app N2437 M2440
        have K2440 : Keep h0 h2440 [] := K2428.trans Kc2440 (own_all3 (Or.inr sz_b1963) (Or.inr sz_b2137_1970) (Or.inr sz_na_2324))
        have pre2441 : ∀ t, Steps p.tables e below (T2440.setTop (mkF m 250 #[iv p0, iv p1, iv p2, iv p3, iv (3 : Int32), iv ln, rv r_1920, rv r_1923, iv s0, rv r_1930, rv r_1935, iv s1, rv r_1944, rv r_1951, iv s2, rv b1963, iv (1 : Int32), iv (1 : Int32)] [])) t → Steps p.tables e below (s₁.setTop (entryFrame m #[(.int p0), (.int p1), (.int p2), (.int p3)] maxLocals)) t := fun t kt => pre2439 _ (st2440.trans kt)
        have XF2442 : Ext h1951 h2440 := own_ext_keep XF2430 Kc2440 (own_all3 zF_b1963 zF_b2137_1970 zF_na_2324)
        rcases own_sync p2 l4 with ⟨hs2443a, hs2443b⟩ | ⟨hs2443a, hs2443b⟩
        · rw [← hs2] at hs2443a
          have F2444 : Fld Z h2440 b1963 "com/example/homethread/homethread/cli/ScenarioReport" "differs" "Z" (.int (1 : Int32)) := own_fldcast J2440_2 (own_dif0 hs2443b)
          have pre2445 : ∀ t, Steps p.tables e below (T2440.setTop (mkF m 274 #[iv p0, iv p1, iv p2, iv p3, iv (3 : Int32), iv ln, rv r_1920, rv r_1923, iv s0, rv r_1930, rv r_1935, iv s1, rv r_1944, rv r_1951, iv s2, rv b1963, iv (1 : Int32), iv (1 : Int32)] [(.ref b1963)])) t → Steps p.tables e below (s₁.setTop (entryFrame m #[(.int p0), (.int p1), (.int p2), (.int p3)] maxLocals)) t := fun t kt => by
            refine pre2441 _ ?_
            show Steps p.tables e below (T2440.setTop (mkF m 250 #[iv p0, iv p1, iv p2, iv p3, iv (3 : Int32), iv ln, rv r_1920, rv r_1923, iv s0, rv r_1930, rv r_1935, iv s1, rv r_1944, rv r_1951, iv s2, rv b1963, iv (1 : Int32), iv (1 : Int32)] [])) _
            refine XS.iload X2440.here hx rfl (hb hby at_250) rfl ?_
            refine XS.ifYes X2440.here hx rfl (pc0 := 252) (pc' := 260) rfl (hb hby at_252) rfl (XT.i0_ne_t (by decide)) (by decide) (by decide) ?_
            refine XS.iconst X2440.here hx rfl (hb hby at_260) ?_
            refine XS.goto X2440.here hx rfl (pc0 := 261) (pc' := 265) rfl (hb hby at_261) (by decide) (by decide) ?_
            refine XS.istore X2440.here hx rfl (hb hby at_265) rfl (l' := #[iv p0, iv p1, iv p2, iv p3, iv (3 : Int32), iv ln, rv r_1920, rv r_1923, iv s0, rv r_1930, rv r_1935, iv s1, rv r_1944, rv r_1951, iv s2, rv b1963, iv (1 : Int32), iv (1 : Int32)]) rfl ?_
            refine XS.iload X2440.here hx rfl (hb hby at_267) rfl ?_
            refine XS.ifNo X2440.here hx rfl (hb hby at_269) rfl (XT.i0_eq_f (by decide)) ?_
            refine XS.aload X2440.here hx rfl (hb hby at_272) rfl rfl ?_
            exact kt
          obtain ⟨cq2446, kq2446, q2446a, q2446b, q2446c⟩ := isOf hZ e2440 J2440_0
          obtain ⟨_, _, ⟨T2446, L2446, k2446, n2446⟩, -, X2446, ⟨Lc2446, hQ2446, l2446, y2446, z2446⟩, st2446⟩ := X2440.virtualBack hx (y := (⟨"com/example/homethread/homethread/cli/ScenarioReport", "exitStatus", "()I"⟩ : MethodName)) (z := (⟨"com/example/homethread/homethread/cli/ScenarioReport", "exitStatus", "()I"⟩ : MethodName)) hown (mvT hZ (W 82 rfl)) (mvT hZ (W 83 rfl)) (notFace_of_selects (args := #[]) (mvT hZ (W 85 rfl))) (mvT hZ (W 85 rfl)) (mvT hZ (W 84 rfl)) (by decide) (backOf (W := 0) (rm_exitStatus17_1 l Z a0 hw [] b1963 h2440 n0 O2440 F2444) hZ (W 86 rfl) (W 51 rfl) (by decide) (by decide)) q2446a q2446c (g := (mkF m 274 #[iv p0, iv p1, iv p2, iv p3, iv (3 : Int32), iv ln, rv r_1920, rv r_1923, iv s0, rv r_1930, rv r_1935, iv s1, rv r_1944, rv r_1951, iv s2, rv b1963, iv (1 : Int32), iv (1 : Int32)] [(.ref b1963)])) rfl (by rw [hml]; rfl) (Steps.refl _) (argsL := []) (rest := []) (lenOf pd_50 rfl) rfl (by show 2 * 0 + _ ≤ _; exact Nat.le_of_eq rfl) (hb hby at_274) (fun _ _ => ⟨rfl, e2440, (by decide : 21 + 0 ≤ _), (by decide : 63 + 0 ≤ _)⟩)
          dsimp only [Pt.U, Pt.locs, Pt.cells, Pt.slots] at X2446 l2446 y2446 z2446 st2446 hQ2446
          replace l2446 := l2446.symm
          replace y2446 : 21 = k2446 := y2446.symm
          replace z2446 : 63 = n2446 := z2446.symm
          subst l2446 y2446 z2446
          obtain ⟨rfl, M2446, e2446⟩ := hQ2446
          have N2446 := Fr.app N2440 M2446
          have pre2447 : ∀ t, Steps p.tables e below (T2446.setTop (mkF m 277 #[iv p0, iv p1, iv p2, iv p3, iv (3 : Int32), iv ln, rv r_1920, rv r_1923, iv s0, rv r_1930, rv r_1935, iv s1, rv r_1944, rv r_1951, iv s2, rv b1963, iv (1 : Int32), iv (1 : Int32)] [(.int (1 : Int32))])) t → Steps p.tables e below (s₁.setTop (entryFrame m #[(.int p0), (.int p1), (.int p2), (.int p3)] maxLocals)) t := fun t kt => pre2445 _ (st2446.trans kt)
          have pre2448 : ∀ t, Steps p.tables e below (T2446.setTop (mkF m 279 #[iv p0, iv p1, iv p2, iv p3, iv (3 : Int32), iv ln, rv r_1920, rv r_1923, iv s0, rv r_1930, rv r_1935, iv s1, rv r_1944, rv r_1951, iv s2, rv b1963, iv (1 : Int32), iv (1 : Int32)] [(.int (1 : Int32)), (.int (1 : Int32))])) t → Steps p.tables e below (s₁.setTop (entryFrame m #[(.int p0), (.int p1), (.int p2), (.int p3)] maxLocals)) t := fun t kt => by
            refine pre2447 _ ?_
            show Steps p.tables e below (T2446.setTop (mkF m 277 #[iv p0, iv p1, iv p2, iv p3, iv (3 : Int32), iv ln, rv r_1920, rv r_1923, iv s0, rv r_1930, rv r_1935, iv s1, rv r_1944, rv r_1951, iv s2, rv b1963, iv (1 : Int32), iv (1 : Int32)] [(.int (1 : Int32))])) _
            refine XS.iload X2446.here hx rfl (hb hby at_277) rfl ?_
            exact kt
          obtain ⟨_, _, ⟨T2449, L2449, k2449, n2449⟩, -, X2449, ⟨Lc2449, hQ2449, l2449, y2449, z2449⟩, st2449⟩ := Jvm.LawKit.callS X2446 hx (y := (⟨"com/example/homethread/homethread/cli/ScenarioReportExitStatusPinLaw", "want", "(Z)I"⟩ : MethodName)) hown (mvT hZ (W 139 rfl)) (mvT hZ (W 140 rfl)) (mvT hZ (W 2 rfl)) (mvT hZ (W 141 rfl)) (by decide) (backOf (W := 1) (rm_want26_1 l Z a0 hw [] h2440 n0 O2440) hZ (W 141 rfl) (W 2 rfl) (by decide) (by decide)) (g := (mkF m 279 #[iv p0, iv p1, iv p2, iv p3, iv (3 : Int32), iv ln, rv r_1920, rv r_1923, iv s0, rv r_1930, rv r_1935, iv s1, rv r_1944, rv r_1951, iv s2, rv b1963, iv (1 : Int32), iv (1 : Int32)] [(.int (1 : Int32)), (.int (1 : Int32))])) rfl (by rw [hml]; rfl) (argsL := [(.int (1 : Int32))]) (rest := [(.int (1 : Int32))]) (lenOf pd_52 rfl) rfl (by show 2 * 0 + _ ≤ _; exact Nat.le_of_eq rfl) (hb hby at_279) (fun _ _ => ⟨rfl, e2446, (by decide : 21 + 0 ≤ _), (by decide : 63 + 0 ≤ _)⟩)
          dsimp only [Pt.U, Pt.locs, Pt.cells, Pt.slots] at X2449 l2449 y2449 z2449 st2449 hQ2449
          replace l2449 := l2449.symm
          replace y2449 : 21 = k2449 := y2449.symm
          replace z2449 : 63 = n2449 := z2449.symm
          subst l2449 y2449 z2449
          obtain ⟨rfl, M2449, e2449⟩ := hQ2449
          have N2449 := Fr.app N2446 M2449
          have pre2450 : ∀ t, Steps p.tables e below (T2449.setTop (mkF m 282 #[iv p0, iv p1, iv p2, iv p3, iv (3 : Int32), iv ln, rv r_1920, rv r_1923, iv s0, rv r_1930, rv r_1935, iv s1, rv r_1944, rv r_1951, iv s2, rv b1963, iv (1 : Int32), iv (1 : Int32)] [(.int (1 : Int32)), (.int (1 : Int32))])) t → Steps p.tables e below (s₁.setTop (entryFrame m #[(.int p0), (.int p1), (.int p2), (.int p3)] maxLocals)) t := fun t kt => pre2448 _ (st2449 _ kt)
          have pre2451 : ∀ t, Steps p.tables e below (T2449.setTop (mkF m 299 #[iv p0, iv p1, iv p2, iv p3, iv (3 : Int32), iv ln, rv r_1920, rv r_1923, iv s0, rv r_1930, rv r_1935, iv s1, rv r_1944, rv r_1951, iv s2, rv b1963, iv (1 : Int32), iv (1 : Int32)] [(.ref b1963)])) t → Steps p.tables e below (s₁.setTop (entryFrame m #[(.int p0), (.int p1), (.int p2), (.int p3)] maxLocals)) t := fun t kt => by
            refine pre2450 _ ?_
            show Steps p.tables e below (T2449.setTop (mkF m 282 #[iv p0, iv p1, iv p2, iv p3, iv (3 : Int32), iv ln, rv r_1920, rv r_1923, iv s0, rv r_1930, rv r_1935, iv s1, rv r_1944, rv r_1951, iv s2, rv b1963, iv (1 : Int32), iv (1 : Int32)] [(.int (1 : Int32)), (.int (1 : Int32))])) _
            refine XS.icmpNo X2449.here hx rfl (hb hby at_282) rfl (XT.ii_ne_f (by decide)) ?_
            refine XS.iconst X2449.here hx rfl (hb hby at_285) ?_
            refine XS.goto X2449.here hx rfl (pc0 := 286) (pc' := 290) rfl (hb hby at_286) (by decide) (by decide) ?_
            refine XS.istore X2449.here hx rfl (hb hby at_290) rfl (l' := #[iv p0, iv p1, iv p2, iv p3, iv (3 : Int32), iv ln, rv r_1920, rv r_1923, iv s0, rv r_1930, rv r_1935, iv s1, rv r_1944, rv r_1951, iv s2, rv b1963, iv (1 : Int32), iv (1 : Int32)]) rfl ?_
            refine XS.iload X2449.here hx rfl (hb hby at_292) rfl ?_
            refine XS.ifNo X2449.here hx rfl (hb hby at_294) rfl (XT.i0_eq_f (by decide)) ?_
            refine XS.aload X2449.here hx rfl (hb hby at_297) rfl rfl ?_
            exact kt
          obtain ⟨cq2452, kq2452, q2452a, q2452b, q2452c⟩ := isOf hZ e2449 J2440_0
          obtain ⟨_, _, ⟨T2452, L2452, k2452, n2452⟩, -, X2452, ⟨Lc2452, hQ2452, l2452, y2452, z2452⟩, st2452⟩ := X2449.virtualBack hx (y := (⟨"com/example/homethread/homethread/cli/ScenarioReport", "exitStatus", "()I"⟩ : MethodName)) (z := (⟨"com/example/homethread/homethread/cli/ScenarioReport", "exitStatus", "()I"⟩ : MethodName)) hown (mvT hZ (W 82 rfl)) (mvT hZ (W 83 rfl)) (notFace_of_selects (args := #[]) (mvT hZ (W 85 rfl))) (mvT hZ (W 85 rfl)) (mvT hZ (W 84 rfl)) (by decide) (backOf (W := 0) (rm_exitStatus17_1 l Z a0 hw [] b1963 h2440 n0 O2440 F2444) hZ (W 86 rfl) (W 51 rfl) (by decide) (by decide)) q2452a q2452c (g := (mkF m 299 #[iv p0, iv p1, iv p2, iv p3, iv (3 : Int32), iv ln, rv r_1920, rv r_1923, iv s0, rv r_1930, rv r_1935, iv s1, rv r_1944, rv r_1951, iv s2, rv b1963, iv (1 : Int32), iv (1 : Int32)] [(.ref b1963)])) rfl (by rw [hml]; rfl) (Steps.refl _) (argsL := []) (rest := []) (lenOf pd_50 rfl) rfl (by show 2 * 0 + _ ≤ _; exact Nat.le_of_eq rfl) (hb hby at_299) (fun _ _ => ⟨rfl, e2449, (by decide : 21 + 0 ≤ _), (by decide : 63 + 0 ≤ _)⟩)
          dsimp only [Pt.U, Pt.locs, Pt.cells, Pt.slots] at X2452 l2452 y2452 z2452 st2452 hQ2452
          replace l2452 := l2452.symm
          replace y2452 : 21 = k2452 := y2452.symm
          replace z2452 : 63 = n2452 := z2452.symm
          subst l2452 y2452 z2452
          obtain ⟨rfl, M2452, e2452⟩ := hQ2452
          have N2452 := Fr.app N2449 M2452
          have pre2453 : ∀ t, Steps p.tables e below (T2452.setTop (mkF m 302 #[iv p0, iv p1, iv p2, iv p3, iv (3 : Int32), iv ln, rv r_1920, rv r_1923, iv s0, rv r_1930, rv r_1935, iv s1, rv r_1944, rv r_1951, iv s2, rv b1963, iv (1 : Int32), iv (1 : Int32)] [(.int (1 : Int32))])) t → Steps p.tables e below (s₁.setTop (entryFrame m #[(.int p0), (.int p1), (.int p2), (.int p3)] maxLocals)) t := fun t kt => pre2451 _ (st2452.trans kt)
          have pre2454 : ∀ t, Steps p.tables e below (T2452.setTop (mkF m 304 #[iv p0, iv p1, iv p2, iv p3, iv (3 : Int32), iv ln, rv r_1920, rv r_1923, iv s0, rv r_1930, rv r_1935, iv s1, rv r_1944, rv r_1951, iv s2, rv b1963, iv (1 : Int32), iv (1 : Int32)] [(.int (1 : Int32)), (.int (1 : Int32))])) t → Steps p.tables e below (s₁.setTop (entryFrame m #[(.int p0), (.int p1), (.int p2), (.int p3)] maxLocals)) t := fun t kt => by
            refine pre2453 _ ?_
            show Steps p.tables e below (T2452.setTop (mkF m 302 #[iv p0, iv p1, iv p2, iv p3, iv (3 : Int32), iv ln, rv r_1920, rv r_1923, iv s0, rv r_1930, rv r_1935, iv s1, rv r_1944, rv r_1951, iv s2, rv b1963, iv (1 : Int32), iv (1 : Int32)] [(.int (1 : Int32))])) _
            refine XS.iload X2452.here hx rfl (hb hby at_302) rfl ?_
            exact kt
          obtain ⟨_, _, ⟨T2455, L2455, k2455, n2455⟩, -, X2455, ⟨Lc2455, hQ2455, l2455, y2455, z2455⟩, st2455⟩ := Jvm.LawKit.callS X2452 hx (y := (⟨"com/example/homethread/homethread/cli/ScenarioReportExitStatusPinLaw", "want", "(Z)I"⟩ : MethodName)) hown (mvT hZ (W 139 rfl)) (mvT hZ (W 140 rfl)) (mvT hZ (W 2 rfl)) (mvT hZ (W 141 rfl)) (by decide) (backOf (W := 1) (rm_want26_1 l Z a0 hw [] h2440 n0 O2440) hZ (W 141 rfl) (W 2 rfl) (by decide) (by decide)) (g := (mkF m 304 #[iv p0, iv p1, iv p2, iv p3, iv (3 : Int32), iv ln, rv r_1920, rv r_1923, iv s0, rv r_1930, rv r_1935, iv s1, rv r_1944, rv r_1951, iv s2, rv b1963, iv (1 : Int32), iv (1 : Int32)] [(.int (1 : Int32)), (.int (1 : Int32))])) rfl (by rw [hml]; rfl) (argsL := [(.int (1 : Int32))]) (rest := [(.int (1 : Int32))]) (lenOf pd_52 rfl) rfl (by show 2 * 0 + _ ≤ _; exact Nat.le_of_eq rfl) (hb hby at_304) (fun _ _ => ⟨rfl, e2452, (by decide : 21 + 0 ≤ _), (by decide : 63 + 0 ≤ _)⟩)
          dsimp only [Pt.U, Pt.locs, Pt.cells, Pt.slots] at X2455 l2455 y2455 z2455 st2455 hQ2455
          replace l2455 := l2455.symm
          replace y2455 : 21 = k2455 := y2455.symm
          replace z2455 : 63 = n2455 := z2455.symm
          subst l2455 y2455 z2455
          obtain ⟨rfl, M2455, e2455⟩ := hQ2455
          have N2455 := Fr.app N2452 M2455
          have pre2456 : ∀ t, Steps p.tables e below (T2455.setTop (mkF m 307 #[iv p0, iv p1, iv p2, iv p3, iv (3 : Int32), iv ln, rv r_1920, rv r_1923, iv s0, rv r_1930, rv r_1935, iv s1, rv r_1944, rv r_1951, iv s2, rv b1963, iv (1 : Int32), iv (1 : Int32)] [(.int (1 : Int32)), (.int (1 : Int32))])) t → Steps p.tables e below (s₁.setTop (entryFrame m #[(.int p0), (.int p1), (.int p2), (.int p3)] maxLocals)) t := fun t kt => pre2454 _ (st2455 _ kt)
          have pre2457 : ∀ t, Steps p.tables e below (T2455.setTop (mkF m 319 #[iv p0, iv p1, iv p2, iv p3, iv (3 : Int32), iv ln, rv r_1920, rv r_1923, iv s0, rv r_1930, rv r_1935, iv s1, rv r_1944, rv r_1951, iv s2, rv b1963, iv (1 : Int32), iv (1 : Int32)] [(.int (1 : Int32))])) t → Steps p.tables e below (s₁.setTop (entryFrame m #[(.int p0), (.int p1), (.int p2), (.int p3)] maxLocals)) t := fun t kt => by
            refine pre2456 _ ?_
            show Steps p.tables e below (T2455.setTop (mkF m 307 #[iv p0, iv p1, iv p2, iv p3, iv (3 : Int32), iv ln, rv r_1920, rv r_1923, iv s0, rv r_1930, rv r_1935, iv s1, rv r_1944, rv r_1951, iv s2, rv b1963, iv (1 : Int32), iv (1 : Int32)] [(.int (1 : Int32)), (.int (1 : Int32))])) _
            refine XS.icmpNo X2455.here hx rfl (hb hby at_307) rfl (XT.ii_ne_f (by decide)) ?_
            refine XS.iconst X2455.here hx rfl (hb hby at_310) ?_
            refine XS.goto X2455.here hx rfl (pc0 := 311) (pc' := 315) rfl (hb hby at_311) (by decide) (by decide) ?_
            refine XS.istore X2455.here hx rfl (hb hby at_315) rfl (l' := #[iv p0, iv p1, iv p2, iv p3, iv (3 : Int32), iv ln, rv r_1920, rv r_1923, iv s0, rv r_1930, rv r_1935, iv s1, rv r_1944, rv r_1951, iv s2, rv b1963, iv (1 : Int32), iv (1 : Int32)]) rfl ?_
            refine XS.iload X2455.here hx rfl (hb hby at_317) rfl ?_
            exact kt
          obtain ⟨fs, hr, hrun, hended, hW, hsame⟩ := X2455.leave (v := some (.int (1 : Int32))) (fun h => by rw [Bd.returns] at h; cases h)
          refine ⟨_, _, pre2457 _ (retN X2455 hx (t := .boolean) Bd.returns (by simp) (hb hby at_319) hr), hrun, hended, _, _, rfl, ?_, ⟨_, rfl⟩, hW, hsame.mono (by decide) (by decide)⟩
          show Q_law Z p0 p1 p2 p3 cz ad kd h0 n0 _ T2455.heap _
          rw [e2455]
          exact ⟨rfl, N2455⟩
        · rw [← hs2] at hs2443a
          have F2458 : Fld Z h2440 b1963 "com/example/homethread/homethread/cli/ScenarioReport" "differs" "Z" (.int (1 : Int32)) := own_fldcast J2440_2 (own_dif1 hs2443b)
          have pre2459 : ∀ t, Steps p.tables e below (T2440.setTop (mkF m 274 #[iv p0, iv p1, iv p2, iv p3, iv (3 : Int32), iv ln, rv r_1920, rv r_1923, iv s0, rv r_1930, rv r_1935, iv s1, rv r_1944, rv r_1951, iv s2, rv b1963, iv (1 : Int32), iv (1 : Int32)] [(.ref b1963)])) t → Steps p.tables e below (s₁.setTop (entryFrame m #[(.int p0), (.int p1), (.int p2), (.int p3)] maxLocals)) t := fun t kt => by
            refine pre2441 _ ?_
            show Steps p.tables e below (T2440.setTop (mkF m 250 #[iv p0, iv p1, iv p2, iv p3, iv (3 : Int32), iv ln, rv r_1920, rv r_1923, iv s0, rv r_1930, rv r_1935, iv s1, rv r_1944, rv r_1951, iv s2, rv b1963, iv (1 : Int32), iv (1 : Int32)] [])) _
            refine XS.iload X2440.here hx rfl (hb hby at_250) rfl ?_
            refine XS.ifYes X2440.here hx rfl (pc0 := 252) (pc' := 260) rfl (hb hby at_252) rfl (XT.i0_ne_t (by decide)) (by decide) (by decide) ?_
            refine XS.iconst X2440.here hx rfl (hb hby at_260) ?_
            refine XS.goto X2440.here hx rfl (pc0 := 261) (pc' := 265) rfl (hb hby at_261) (by decide) (by decide) ?_
            refine XS.istore X2440.here hx rfl (hb hby at_265) rfl (l' := #[iv p0, iv p1, iv p2, iv p3, iv (3 : Int32), iv ln, rv r_1920, rv r_1923, iv s0, rv r_1930, rv r_1935, iv s1, rv r_1944, rv r_1951, iv s2, rv b1963, iv (1 : Int32), iv (1 : Int32)]) rfl ?_
            refine XS.iload X2440.here hx rfl (hb hby at_267) rfl ?_
            refine XS.ifNo X2440.here hx rfl (hb hby at_269) rfl (XT.i0_eq_f (by decide)) ?_
            refine XS.aload X2440.here hx rfl (hb hby at_272) rfl rfl ?_
            exact kt
          obtain ⟨cq2460, kq2460, q2460a, q2460b, q2460c⟩ := isOf hZ e2440 J2440_0
          obtain ⟨_, _, ⟨T2460, L2460, k2460, n2460⟩, -, X2460, ⟨Lc2460, hQ2460, l2460, y2460, z2460⟩, st2460⟩ := X2440.virtualBack hx (y := (⟨"com/example/homethread/homethread/cli/ScenarioReport", "exitStatus", "()I"⟩ : MethodName)) (z := (⟨"com/example/homethread/homethread/cli/ScenarioReport", "exitStatus", "()I"⟩ : MethodName)) hown (mvT hZ (W 82 rfl)) (mvT hZ (W 83 rfl)) (notFace_of_selects (args := #[]) (mvT hZ (W 85 rfl))) (mvT hZ (W 85 rfl)) (mvT hZ (W 84 rfl)) (by decide) (backOf (W := 0) (rm_exitStatus17_1 l Z a0 hw [] b1963 h2440 n0 O2440 F2458) hZ (W 86 rfl) (W 51 rfl) (by decide) (by decide)) q2460a q2460c (g := (mkF m 274 #[iv p0, iv p1, iv p2, iv p3, iv (3 : Int32), iv ln, rv r_1920, rv r_1923, iv s0, rv r_1930, rv r_1935, iv s1, rv r_1944, rv r_1951, iv s2, rv b1963, iv (1 : Int32), iv (1 : Int32)] [(.ref b1963)])) rfl (by rw [hml]; rfl) (Steps.refl _) (argsL := []) (rest := []) (lenOf pd_50 rfl) rfl (by show 2 * 0 + _ ≤ _; exact Nat.le_of_eq rfl) (hb hby at_274) (fun _ _ => ⟨rfl, e2440, (by decide : 21 + 0 ≤ _), (by decide : 63 + 0 ≤ _)⟩)
          dsimp only [Pt.U, Pt.locs, Pt.cells, Pt.slots] at X2460 l2460 y2460 z2460 st2460 hQ2460
          replace l2460 := l2460.symm
          replace y2460 : 21 = k2460 := y2460.symm
          replace z2460 : 63 = n2460 := z2460.symm
          subst l2460 y2460 z2460
          obtain ⟨rfl, M2460, e2460⟩ := hQ2460
          have N2460 := Fr.app N2440 M2460
          have pre2461 : ∀ t, Steps p.tables e below (T2460.setTop (mkF m 277 #[iv p0, iv p1, iv p2, iv p3, iv (3 : Int32), iv ln, rv r_1920, rv r_1923, iv s0, rv r_1930, rv r_1935, iv s1, rv r_1944, rv r_1951, iv s2, rv b1963, iv (1 : Int32), iv (1 : Int32)] [(.int (1 : Int32))])) t → Steps p.tables e below (s₁.setTop (entryFrame m #[(.int p0), (.int p1), (.int p2), (.int p3)] maxLocals)) t := fun t kt => pre2459 _ (st2460.trans kt)
          have pre2462 : ∀ t, Steps p.tables e below (T2460.setTop (mkF m 279 #[iv p0, iv p1, iv p2, iv p3, iv (3 : Int32), iv ln, rv r_1920, rv r_1923, iv s0, rv r_1930, rv r_1935, iv s1, rv r_1944, rv r_1951, iv s2, rv b1963, iv (1 : Int32), iv (1 : Int32)] [(.int (1 : Int32)), (.int (1 : Int32))])) t → Steps p.tables e below (s₁.setTop (entryFrame m #[(.int p0), (.int p1), (.int p2), (.int p3)] maxLocals)) t := fun t kt => by
            refine pre2461 _ ?_
            show Steps p.tables e below (T2460.setTop (mkF m 277 #[iv p0, iv p1, iv p2, iv p3, iv (3 : Int32), iv ln, rv r_1920, rv r_1923, iv s0, rv r_1930, rv r_1935, iv s1, rv r_1944, rv r_1951, iv s2, rv b1963, iv (1 : Int32), iv (1 : Int32)] [(.int (1 : Int32))])) _
            refine XS.iload X2460.here hx rfl (hb hby at_277) rfl ?_
            exact kt
          obtain ⟨_, _, ⟨T2463, L2463, k2463, n2463⟩, -, X2463, ⟨Lc2463, hQ2463, l2463, y2463, z2463⟩, st2463⟩ := Jvm.LawKit.callS X2460 hx (y := (⟨"com/example/homethread/homethread/cli/ScenarioReportExitStatusPinLaw", "want", "(Z)I"⟩ : MethodName)) hown (mvT hZ (W 139 rfl)) (mvT hZ (W 140 rfl)) (mvT hZ (W 2 rfl)) (mvT hZ (W 141 rfl)) (by decide) (backOf (W := 1) (rm_want26_1 l Z a0 hw [] h2440 n0 O2440) hZ (W 141 rfl) (W 2 rfl) (by decide) (by decide)) (g := (mkF m 279 #[iv p0, iv p1, iv p2, iv p3, iv (3 : Int32), iv ln, rv r_1920, rv r_1923, iv s0, rv r_1930, rv r_1935, iv s1, rv r_1944, rv r_1951, iv s2, rv b1963, iv (1 : Int32), iv (1 : Int32)] [(.int (1 : Int32)), (.int (1 : Int32))])) rfl (by rw [hml]; rfl) (argsL := [(.int (1 : Int32))]) (rest := [(.int (1 : Int32))]) (lenOf pd_52 rfl) rfl (by show 2 * 0 + _ ≤ _; exact Nat.le_of_eq rfl) (hb hby at_279) (fun _ _ => ⟨rfl, e2460, (by decide : 21 + 0 ≤ _), (by decide : 63 + 0 ≤ _)⟩)
          dsimp only [Pt.U, Pt.locs, Pt.cells, Pt.slots] at X2463 l2463 y2463 z2463 st2463 hQ2463
          replace l2463 := l2463.symm
          replace y2463 : 21 = k2463 := y2463.symm
          replace z2463 : 63 = n2463 := z2463.symm
          subst l2463 y2463 z2463
          obtain ⟨rfl, M2463, e2463⟩ := hQ2463
          have N2463 := Fr.app N2460 M2463
          have pre2464 : ∀ t, Steps p.tables e below (T2463.setTop (mkF m 282 #[iv p0, iv p1, iv p2, iv p3, iv (3 : Int32), iv ln, rv r_1920, rv r_1923, iv s0, rv r_1930, rv r_1935, iv s1, rv r_1944, rv r_1951, iv s2, rv b1963, iv (1 : Int32), iv (1 : Int32)] [(.int (1 : Int32)), (.int (1 : Int32))])) t → Steps p.tables e below (s₁.setTop (entryFrame m #[(.int p0), (.int p1), (.int p2), (.int p3)] maxLocals)) t := fun t kt => pre2462 _ (st2463 _ kt)
          have pre2465 : ∀ t, Steps p.tables e below (T2463.setTop (mkF m 299 #[iv p0, iv p1, iv p2, iv p3, iv (3 : Int32), iv ln, rv r_1920, rv r_1923, iv s0, rv r_1930, rv r_1935, iv s1, rv r_1944, rv r_1951, iv s2, rv b1963, iv (1 : Int32), iv (1 : Int32)] [(.ref b1963)])) t → Steps p.tables e below (s₁.setTop (entryFrame m #[(.int p0), (.int p1), (.int p2), (.int p3)] maxLocals)) t := fun t kt => by
            refine pre2464 _ ?_
            show Steps p.tables e below (T2463.setTop (mkF m 282 #[iv p0, iv p1, iv p2, iv p3, iv (3 : Int32), iv ln, rv r_1920, rv r_1923, iv s0, rv r_1930, rv r_1935, iv s1, rv r_1944, rv r_1951, iv s2, rv b1963, iv (1 : Int32), iv (1 : Int32)] [(.int (1 : Int32)), (.int (1 : Int32))])) _
            refine XS.icmpNo X2463.here hx rfl (hb hby at_282) rfl (XT.ii_ne_f (by decide)) ?_
            refine XS.iconst X2463.here hx rfl (hb hby at_285) ?_
            refine XS.goto X2463.here hx rfl (pc0 := 286) (pc' := 290) rfl (hb hby at_286) (by decide) (by decide) ?_
            refine XS.istore X2463.here hx rfl (hb hby at_290) rfl (l' := #[iv p0, iv p1, iv p2, iv p3, iv (3 : Int32), iv ln, rv r_1920, rv r_1923, iv s0, rv r_1930, rv r_1935, iv s1, rv r_1944, rv r_1951, iv s2, rv b1963, iv (1 : Int32), iv (1 : Int32)]) rfl ?_
            refine XS.iload X2463.here hx rfl (hb hby at_292) rfl ?_
            refine XS.ifNo X2463.here hx rfl (hb hby at_294) rfl (XT.i0_eq_f (by decide)) ?_
            refine XS.aload X2463.here hx rfl (hb hby at_297) rfl rfl ?_
            exact kt
          obtain ⟨cq2466, kq2466, q2466a, q2466b, q2466c⟩ := isOf hZ e2463 J2440_0
          obtain ⟨_, _, ⟨T2466, L2466, k2466, n2466⟩, -, X2466, ⟨Lc2466, hQ2466, l2466, y2466, z2466⟩, st2466⟩ := X2463.virtualBack hx (y := (⟨"com/example/homethread/homethread/cli/ScenarioReport", "exitStatus", "()I"⟩ : MethodName)) (z := (⟨"com/example/homethread/homethread/cli/ScenarioReport", "exitStatus", "()I"⟩ : MethodName)) hown (mvT hZ (W 82 rfl)) (mvT hZ (W 83 rfl)) (notFace_of_selects (args := #[]) (mvT hZ (W 85 rfl))) (mvT hZ (W 85 rfl)) (mvT hZ (W 84 rfl)) (by decide) (backOf (W := 0) (rm_exitStatus17_1 l Z a0 hw [] b1963 h2440 n0 O2440 F2458) hZ (W 86 rfl) (W 51 rfl) (by decide) (by decide)) q2466a q2466c (g := (mkF m 299 #[iv p0, iv p1, iv p2, iv p3, iv (3 : Int32), iv ln, rv r_1920, rv r_1923, iv s0, rv r_1930, rv r_1935, iv s1, rv r_1944, rv r_1951, iv s2, rv b1963, iv (1 : Int32), iv (1 : Int32)] [(.ref b1963)])) rfl (by rw [hml]; rfl) (Steps.refl _) (argsL := []) (rest := []) (lenOf pd_50 rfl) rfl (by show 2 * 0 + _ ≤ _; exact Nat.le_of_eq rfl) (hb hby at_299) (fun _ _ => ⟨rfl, e2463, (by decide : 21 + 0 ≤ _), (by decide : 63 + 0 ≤ _)⟩)
          dsimp only [Pt.U, Pt.locs, Pt.cells, Pt.slots] at X2466 l2466 y2466 z2466 st2466 hQ2466
          replace l2466 := l2466.symm
          replace y2466 : 21 = k2466 := y2466.symm
          replace z2466 : 63 = n2466 := z2466.symm
          subst l2466 y2466 z2466
          obtain ⟨rfl, M2466, e2466⟩ := hQ2466
          have N2466 := Fr.app N2463 M2466
          have pre2467 : ∀ t, Steps p.tables e below (T2466.setTop (mkF m 302 #[iv p0, iv p1, iv p2, iv p3, iv (3 : Int32), iv ln, rv r_1920, rv r_1923, iv s0, rv r_1930, rv r_1935, iv s1, rv r_1944, rv r_1951, iv s2, rv b1963, iv (1 : Int32), iv (1 : Int32)] [(.int (1 : Int32))])) t → Steps p.tables e below (s₁.setTop (entryFrame m #[(.int p0), (.int p1), (.int p2), (.int p3)] maxLocals)) t := fun t kt => pre2465 _ (st2466.trans kt)
          have pre2468 : ∀ t, Steps p.tables e below (T2466.setTop (mkF m 304 #[iv p0, iv p1, iv p2, iv p3, iv (3 : Int32), iv ln, rv r_1920, rv r_1923, iv s0, rv r_1930, rv r_1935, iv s1, rv r_1944, rv r_1951, iv s2, rv b1963, iv (1 : Int32), iv (1 : Int32)] [(.int (1 : Int32)), (.int (1 : Int32))])) t → Steps p.tables e below (s₁.setTop (entryFrame m #[(.int p0), (.int p1), (.int p2), (.int p3)] maxLocals)) t := fun t kt => by
            refine pre2467 _ ?_
            show Steps p.tables e below (T2466.setTop (mkF m 302 #[iv p0, iv p1, iv p2, iv p3, iv (3 : Int32), iv ln, rv r_1920, rv r_1923, iv s0, rv r_1930, rv r_1935, iv s1, rv r_1944, rv r_1951, iv s2, rv b1963, iv (1 : Int32), iv (1 : Int32)] [(.int (1 : Int32))])) _
            refine XS.iload X2466.here hx rfl (hb hby at_302) rfl ?_
            exact kt
          obtain ⟨_, _, ⟨T2469, L2469, k2469, n2469⟩, -, X2469, ⟨Lc2469, hQ2469, l2469, y2469, z2469⟩, st2469⟩ := Jvm.LawKit.callS X2466 hx (y := (⟨"com/example/homethread/homethread/cli/ScenarioReportExitStatusPinLaw", "want", "(Z)I"⟩ : MethodName)) hown (mvT hZ (W 139 rfl)) (mvT hZ (W 140 rfl)) (mvT hZ (W 2 rfl)) (mvT hZ (W 141 rfl)) (by decide) (backOf (W := 1) (rm_want26_1 l Z a0 hw [] h2440 n0 O2440) hZ (W 141 rfl) (W 2 rfl) (by decide) (by decide)) (g := (mkF m 304 #[iv p0, iv p1, iv p2, iv p3, iv (3 : Int32), iv ln, rv r_1920, rv r_1923, iv s0, rv r_1930, rv r_1935, iv s1, rv r_1944, rv r_1951, iv s2, rv b1963, iv (1 : Int32), iv (1 : Int32)] [(.int (1 : Int32)), (.int (1 : Int32))])) rfl (by rw [hml]; rfl) (argsL := [(.int (1 : Int32))]) (rest := [(.int (1 : Int32))]) (lenOf pd_52 rfl) rfl (by show 2 * 0 + _ ≤ _; exact Nat.le_of_eq rfl) (hb hby at_304) (fun _ _ => ⟨rfl, e2466, (by decide : 21 + 0 ≤ _), (by decide : 63 + 0 ≤ _)⟩)
          dsimp only [Pt.U, Pt.locs, Pt.cells, Pt.slots] at X2469 l2469 y2469 z2469 st2469 hQ2469
          replace l2469 := l2469.symm
          replace y2469 : 21 = k2469 := y2469.symm
          replace z2469 : 63 = n2469 := z2469.symm
          subst l2469 y2469 z2469
          obtain ⟨rfl, M2469, e2469⟩ := hQ2469
          have N2469 := Fr.app N2466 M2469
          have pre2470 : ∀ t, Steps p.tables e below (T2469.setTop (mkF m 307 #[iv p0, iv p1, iv p2, iv p3, iv (3 : Int32), iv ln, rv r_1920, rv r_1923, iv s0, rv r_1930, rv r_1935, iv s1, rv r_1944, rv r_1951, iv s2, rv b1963, iv (1 : Int32), iv (1 : Int32)] [(.int (1 : Int32)), (.int (1 : Int32))])) t → Steps p.tables e below (s₁.setTop (entryFrame m #[(.int p0), (.int p1), (.int p2), (.int p3)] maxLocals)) t := fun t kt => pre2468 _ (st2469 _ kt)
          have pre2471 : ∀ t, Steps p.tables e below (T2469.setTop (mkF m 319 #[iv p0, iv p1, iv p2, iv p3, iv (3 : Int32), iv ln, rv r_1920, rv r_1923, iv s0, rv r_1930, rv r_1935, iv s1, rv r_1944, rv r_1951, iv s2, rv b1963, iv (1 : Int32), iv (1 : Int32)] [(.int (1 : Int32))])) t → Steps p.tables e below (s₁.setTop (entryFrame m #[(.int p0), (.int p1), (.int p2), (.int p3)] maxLocals)) t := fun t kt => by
            refine pre2470 _ ?_
            show Steps p.tables e below (T2469.setTop (mkF m 307 #[iv p0, iv p1, iv p2, iv p3, iv (3 : Int32), iv ln, rv r_1920, rv r_1923, iv s0, rv r_1930, rv r_1935, iv s1, rv r_1944, rv r_1951, iv s2, rv b1963, iv (1 : Int32), iv (1 : Int32)] [(.int (1 : Int32)), (.int (1 : Int32))])) _
            refine XS.icmpNo X2469.here hx rfl (hb hby at_307) rfl (XT.ii_ne_f (by decide)) ?_
            refine XS.iconst X2469.here hx rfl (hb hby at_310) ?_
            refine XS.goto X2469.here hx rfl (pc0 := 311) (pc' := 315) rfl (hb hby at_311) (by decide) (by decide) ?_
            refine XS.istore X2469.here hx rfl (hb hby at_315) rfl (l' := #[iv p0, iv p1, iv p2, iv p3, iv (3 : Int32), iv ln, rv r_1920, rv r_1923, iv s0, rv r_1930, rv r_1935, iv s1, rv r_1944, rv r_1951, iv s2, rv b1963, iv (1 : Int32), iv (1 : Int32)]) rfl ?_
            refine XS.iload X2469.here hx rfl (hb hby at_317) rfl ?_
            exact kt
          obtain ⟨fs, hr, hrun, hended, hW, hsame⟩ := X2469.leave (v := some (.int (1 : Int32))) (fun h => by rw [Bd.returns] at h; cases h)
          refine ⟨_, _, pre2471 _ (retN X2469 hx (t := .boolean) Bd.returns (by simp) (hb hby at_319) hr), hrun, hended, _, _, rfl, ?_, ⟨_, rfl⟩, hW, hsame.mono (by decide) (by decide)⟩
          show Q_law Z p0 p1 p2 p3 cz ad kd h0 n0 _ T2469.heap _
          rw [e2469]
          exact ⟨rfl, N2469⟩
      · rw [← hs1] at hs2431a
        have F2472 : Fld Z h2428 b1963 "com/example/homethread/homethread/cli/ScenarioReport" "differs" "Z" (.int (0 : Int32)) := own_fldcast J2428_2 (own_dif1 hs2431b)
        have pre2473 : ∀ t, Steps p.tables e below (T2428.setTop (mkF m 217 #[iv p0, iv p1, iv p2, iv p3, iv (3 : Int32), iv ln, rv r_1920, rv r_1923, iv s0, rv r_1930, rv r_1935, iv s1, rv r_1944, rv r_1951, iv s2, rv b1963, iv (1 : Int32), iv (0 : Int32)] [(.ref b1963)])) t → Steps p.tables e below (s₁.setTop (entryFrame m #[(.int p0), (.int p1), (.int p2), (.int p3)] maxLocals)) t := fun t kt => by
          refine pre2429 _ ?_
          show Steps p.tables e below (T2428.setTop (mkF m 193 #[iv p0, iv p1, iv p2, iv p3, iv (3 : Int32), iv ln, rv r_1920, rv r_1923, iv s0, rv r_1930, rv r_1935, iv s1, rv r_1944, rv r_1951, iv s2, rv b1963, iv (1 : Int32), iv (0 : Int32)] [])) _
          refine XS.iload X2428.here hx rfl (hb hby at_193) rfl ?_
          refine XS.ifNo X2428.here hx rfl (hb hby at_195) rfl (XT.i0_ne_f (by decide)) ?_
          refine XS.iload X2428.here hx rfl (hb hby at_198) rfl ?_
          refine XS.ifYes X2428.here hx rfl (pc0 := 200) (pc' := 207) rfl (hb hby at_200) rfl (XT.i0_ne_t hs2431a) (by decide) (by decide) ?_
          refine XS.iconst X2428.here hx rfl (hb hby at_207) ?_
          refine XS.istore X2428.here hx rfl (hb hby at_208) rfl (l' := #[iv p0, iv p1, iv p2, iv p3, iv (3 : Int32), iv ln, rv r_1920, rv r_1923, iv s0, rv r_1930, rv r_1935, iv s1, rv r_1944, rv r_1951, iv s2, rv b1963, iv (1 : Int32), iv (0 : Int32)]) rfl ?_
          refine XS.iload X2428.here hx rfl (hb hby at_210) rfl ?_
          refine XS.ifNo X2428.here hx rfl (hb hby at_212) rfl (XT.i0_eq_f (by decide)) ?_
          show Steps p.tables e below (T2428.setTop (mkF m 215 #[iv p0, iv p1, iv p2, iv p3, iv (3 : Int32), iv ln, rv r_1920, rv r_1923, iv s0, rv r_1930, rv r_1935, iv s1, rv r_1944, rv r_1951, iv s2, rv b1963, iv (1 : Int32), iv (0 : Int32)] [])) _
          refine XS.aload X2428.here hx rfl (hb hby at_215) rfl rfl ?_
          exact kt
        obtain ⟨cq2474, kq2474, q2474a, q2474b, q2474c⟩ := isOf hZ e2428 J2428_0
        obtain ⟨_, _, ⟨T2474, L2474, k2474, n2474⟩, -, X2474, ⟨Lc2474, hQ2474, l2474, y2474, z2474⟩, st2474⟩ := X2428.virtualBack hx (y := (⟨"com/example/homethread/homethread/cli/ScenarioReport", "exitStatus", "()I"⟩ : MethodName)) (z := (⟨"com/example/homethread/homethread/cli/ScenarioReport", "exitStatus", "()I"⟩ : MethodName)) hown (mvT hZ (W 82 rfl)) (mvT hZ (W 83 rfl)) (notFace_of_selects (args := #[]) (mvT hZ (W 85 rfl))) (mvT hZ (W 85 rfl)) (mvT hZ (W 84 rfl)) (by decide) (backOf (W := 0) (rm_exitStatus17_0 l Z a0 hw [] b1963 h2428 n0 O2428 F2472) hZ (W 86 rfl) (W 51 rfl) (by decide) (by decide)) q2474a q2474c (g := (mkF m 217 #[iv p0, iv p1, iv p2, iv p3, iv (3 : Int32), iv ln, rv r_1920, rv r_1923, iv s0, rv r_1930, rv r_1935, iv s1, rv r_1944, rv r_1951, iv s2, rv b1963, iv (1 : Int32), iv (0 : Int32)] [(.ref b1963)])) rfl (by rw [hml]; rfl) (Steps.refl _) (argsL := []) (rest := []) (lenOf pd_50 rfl) rfl (by show 2 * 0 + _ ≤ _; exact Nat.le_of_eq rfl) (hb hby at_217) (fun _ _ => ⟨rfl, e2428, (by decide : 21 + 0 ≤ _), (by decide : 63 + 0 ≤ _)⟩)
        dsimp only [Pt.U, Pt.locs, Pt.cells, Pt.slots] at X2474 l2474 y2474 z2474 st2474 hQ2474
        replace l2474 := l2474.symm
        replace y2474 : 21 = k2474 := y2474.symm
        replace z2474 : 63 = n2474 := z2474.symm
        subst l2474 y2474 z2474
        obtain ⟨rfl, M2474, e2474⟩ := hQ2474
        have N2474 := Fr.app N2428 M2474
        have pre2475 : ∀ t, Steps p.tables e below (T2474.setTop (mkF m 220 #[iv p0, iv p1, iv p2, iv p3, iv (3 : Int32), iv ln, rv r_1920, rv r_1923, iv s0, rv r_1930, rv r_1935, iv s1, rv r_1944, rv r_1951, iv s2, rv b1963, iv (1 : Int32), iv (0 : Int32)] [(.int (0 : Int32))])) t → Steps p.tables e below (s₁.setTop (entryFrame m #[(.int p0), (.int p1), (.int p2), (.int p3)] maxLocals)) t := fun t kt => pre2473 _ (st2474.trans kt)
        have pre2476 : ∀ t, Steps p.tables e below (T2474.setTop (mkF m 222 #[iv p0, iv p1, iv p2, iv p3, iv (3 : Int32), iv ln, rv r_1920, rv r_1923, iv s0, rv r_1930, rv r_1935, iv s1, rv r_1944, rv r_1951, iv s2, rv b1963, iv (1 : Int32), iv (0 : Int32)] [(.int (0 : Int32)), (.int (0 : Int32))])) t → Steps p.tables e below (s₁.setTop (entryFrame m #[(.int p0), (.int p1), (.int p2), (.int p3)] maxLocals)) t := fun t kt => by
          refine pre2475 _ ?_
          show Steps p.tables e below (T2474.setTop (mkF m 220 #[iv p0, iv p1, iv p2, iv p3, iv (3 : Int32), iv ln, rv r_1920, rv r_1923, iv s0, rv r_1930, rv r_1935, iv s1, rv r_1944, rv r_1951, iv s2, rv b1963, iv (1 : Int32), iv (0 : Int32)] [(.int (0 : Int32))])) _
          refine XS.iload X2474.here hx rfl (hb hby at_220) rfl ?_
          exact kt
        obtain ⟨_, _, ⟨T2477, L2477, k2477, n2477⟩, -, X2477, ⟨Lc2477, hQ2477, l2477, y2477, z2477⟩, st2477⟩ := Jvm.LawKit.callS X2474 hx (y := (⟨"com/example/homethread/homethread/cli/ScenarioReportExitStatusPinLaw", "want", "(Z)I"⟩ : MethodName)) hown (mvT hZ (W 139 rfl)) (mvT hZ (W 140 rfl)) (mvT hZ (W 2 rfl)) (mvT hZ (W 141 rfl)) (by decide) (backOf (W := 1) (rm_want26_0 l Z a0 hw [] h2428 n0 O2428) hZ (W 141 rfl) (W 2 rfl) (by decide) (by decide)) (g := (mkF m 222 #[iv p0, iv p1, iv p2, iv p3, iv (3 : Int32), iv ln, rv r_1920, rv r_1923, iv s0, rv r_1930, rv r_1935, iv s1, rv r_1944, rv r_1951, iv s2, rv b1963, iv (1 : Int32), iv (0 : Int32)] [(.int (0 : Int32)), (.int (0 : Int32))])) rfl (by rw [hml]; rfl) (argsL := [(.int (0 : Int32))]) (rest := [(.int (0 : Int32))]) (lenOf pd_52 rfl) rfl (by show 2 * 0 + _ ≤ _; exact Nat.le_of_eq rfl) (hb hby at_222) (fun _ _ => ⟨rfl, e2474, (by decide : 21 + 0 ≤ _), (by decide : 63 + 0 ≤ _)⟩)
        dsimp only [Pt.U, Pt.locs, Pt.cells, Pt.slots] at X2477 l2477 y2477 z2477 st2477 hQ2477
        replace l2477 := l2477.symm
        replace y2477 : 21 = k2477 := y2477.symm
        replace z2477 : 63 = n2477 := z2477.symm
        subst l2477 y2477 z2477
        obtain ⟨rfl, M2477, e2477⟩ := hQ2477
        have N2477 := Fr.app N2474 M2477
        have pre2478 : ∀ t, Steps p.tables e below (T2477.setTop (mkF m 225 #[iv p0, iv p1, iv p2, iv p3, iv (3 : Int32), iv ln, rv r_1920, rv r_1923, iv s0, rv r_1930, rv r_1935, iv s1, rv r_1944, rv r_1951, iv s2, rv b1963, iv (1 : Int32), iv (0 : Int32)] [(.int (0 : Int32)), (.int (0 : Int32))])) t → Steps p.tables e below (s₁.setTop (entryFrame m #[(.int p0), (.int p1), (.int p2), (.int p3)] maxLocals)) t := fun t kt => pre2476 _ (st2477 _ kt)
        have pre2479 : ∀ t, Steps p.tables e below (T2477.setTop (mkF m 247 #[iv p0, iv p1, iv p2, iv p3, iv (3 : Int32), iv ln, rv r_1920, rv r_1923, iv s0, rv r_1930, rv r_1935, iv s1, rv r_1944, rv r_1951, iv s2, rv b1963, iv (1 : Int32), iv (0 : Int32)] [(.ref r_1951), (.ref r_1944), (.ref b1963)])) t → Steps p.tables e below (s₁.setTop (entryFrame m #[(.int p0), (.int p1), (.int p2), (.int p3)] maxLocals)) t := fun t kt => by
          refine pre2478 _ ?_
          show Steps p.tables e below (T2477.setTop (mkF m 225 #[iv p0, iv p1, iv p2, iv p3, iv (3 : Int32), iv ln, rv r_1920, rv r_1923, iv s0, rv r_1930, rv r_1935, iv s1, rv r_1944, rv r_1951, iv s2, rv b1963, iv (1 : Int32), iv (0 : Int32)] [(.int (0 : Int32)), (.int (0 : Int32))])) _
          refine XS.icmpNo X2477.here hx rfl (hb hby at_225) rfl (XT.ii_ne_f (by decide)) ?_
          refine XS.iconst X2477.here hx rfl (hb hby at_228) ?_
          refine XS.goto X2477.here hx rfl (pc0 := 229) (pc' := 233) rfl (hb hby at_229) (by decide) (by decide) ?_
          refine XS.istore X2477.here hx rfl (hb hby at_233) rfl (l' := #[iv p0, iv p1, iv p2, iv p3, iv (3 : Int32), iv ln, rv r_1920, rv r_1923, iv s0, rv r_1930, rv r_1935, iv s1, rv r_1944, rv r_1951, iv s2, rv b1963, iv (1 : Int32), iv (0 : Int32)]) rfl ?_
          refine XS.iload X2477.here hx rfl (hb hby at_235) rfl ?_
          refine XS.iconst X2477.here hx rfl (hb hby at_237) ?_
          refine XS.icmpNo X2477.here hx rfl (hb hby at_238) rfl (XT.ii_lt_f (by decide)) ?_
          refine XS.aload X2477.here hx rfl (hb hby at_241) rfl rfl ?_
          show Steps p.tables e below (T2477.setTop (mkF m 243 #[iv p0, iv p1, iv p2, iv p3, iv (3 : Int32), iv ln, rv r_1920, rv r_1923, iv s0, rv r_1930, rv r_1935, iv s1, rv r_1944, rv r_1951, iv s2, rv b1963, iv (1 : Int32), iv (0 : Int32)] [(.ref b1963)])) _
          refine XS.aload X2477.here hx rfl (hb hby at_243) rfl rfl ?_
          refine XS.aload X2477.here hx rfl (hb hby at_245) rfl rfl ?_
          exact kt
        obtain ⟨cq2480, kq2480, q2480a, q2480b, q2480c⟩ := isOf hZ e2477 J2428_0
        obtain ⟨_, _, ⟨T2480, L2480, k2480, n2480⟩, -, X2480, ⟨Lc2480, hQ2480, l2480, y2480, z2480⟩, st2480⟩ := X2477.virtualBack hx (y := (⟨"com/example/homethread/homethread/cli/ScenarioReport", "expectLine", "(Ljava/lang/String;Ljava/lang/String;)V"⟩ : MethodName)) (z := (⟨"com/example/homethread/homethread/cli/ScenarioReport", "expectLine", "(Ljava/lang/String;Ljava/lang/String;)V"⟩ : MethodName)) hown (mvT hZ (W 89 rfl)) (mvT hZ (W 90 rfl)) (notFace_of_selects (args := #[]) (mvT hZ (W 92 rfl))) (mvT hZ (W 92 rfl)) (mvT hZ (W 91 rfl)) (by decide) (backOf (W := 0) (rm_line2 l Z a0 hw [] b1963 r_1944 r_1951 cz ad kd b2137_1970 ((((0 : Int32) + (1 : Int32)) + (1 : Int32))) ((0 : Int32)) ((l4 &&& (2 : Int32))) ((own_b ((p2 &&& (255 : Int32)) ^^^ (own_x0 p2)))) ((own_b ((((p2.toUInt32 >>> ((8 : Int32) &&& 31).toUInt32).toInt32) &&& (255 : Int32)) ^^^ (own_x1 p2)))) ((l4 &&& (1 : Int32))) ((own_b (p2 &&& (255 : Int32)))) ((own_b (((p2.toUInt32 >>> ((8 : Int32) &&& 31).toUInt32).toInt32) &&& (255 : Int32)))) na_2324 kna_2324 ((.ref r_1923)) ((.ref r_1935)) h2428 n0 O2428 G0 G1 G2 G3 g_b1963 g_b2137_1970 g_na_2324 J2428_0 J2428_1 F2472 J2428_3 J2428_4 J2428_5 J2428_6 J2428_7 J2428_8 J2428_9 qz (fun q => ne_r_1944_r_1951 q.symm) (Or.inl rfl) ne_b1963_b2137_1970 ne_b1963_na_2324 ne_b2137_1970_na_2324 h1951 XF2430 J1951_0 F1957 zF_b1963 zF_b2137_1970 zF_na_2324) hZ (W 93 rfl) (W 51 rfl) (by decide) (by decide)) q2480a q2480c (g := (mkF m 247 #[iv p0, iv p1, iv p2, iv p3, iv (3 : Int32), iv ln, rv r_1920, rv r_1923, iv s0, rv r_1930, rv r_1935, iv s1, rv r_1944, rv r_1951, iv s2, rv b1963, iv (1 : Int32), iv (0 : Int32)] [(.ref r_1951), (.ref r_1944), (.ref b1963)])) rfl (by rw [hml]; rfl) (Steps.refl _) (argsL := [(.ref r_1944), (.ref r_1951)]) (rest := []) (lenOf pd_53 rfl) rfl (by show 2 * 0 + _ ≤ _; exact Nat.le_of_eq rfl) (hb hby at_247) (fun _ _ => ⟨rfl, e2477, (by decide : 21 + 0 ≤ _), (by decide : 63 + 0 ≤ _)⟩)
        dsimp only [Pt.U, Pt.locs, Pt.cells, Pt.slots] at X2480 l2480 y2480 z2480 st2480 hQ2480
        replace l2480 := l2480.symm
        replace y2480 : 21 = k2480 := y2480.symm
        replace z2480 : 63 = n2480 := z2480.symm
        subst l2480 y2480 z2480
        obtain ⟨rfl, M2480, Kc2480, O2480, J2480_0, J2480_1, J2480_2, J2480_3, J2480_4, J2480_5, J2480_6, J2480_7, J2480_8, J2480_9⟩ := hQ2480
        obtain ⟨h2480, e2480⟩ : ∃ z, T2480.heap = z := ⟨_, rfl⟩
        rw [e2480] at Kc2480 O2480 J2480_0 J2480_1 J2480_2 J2480_3 J2480_4 J2480_5 J2480_6 J2480_7 J2480_8
        have N2480 := Fr.app N2477 M2480
        have K2480 : Keep h0 h2480 [] := K2428.trans Kc2480 (own_all3 (Or.inr sz_b1963) (Or.inr sz_b2137_1970) (Or.inr sz_na_2324))
        have pre2481 : ∀ t, Steps p.tables e below (T2480.setTop (mkF m 250 #[iv p0, iv p1, iv p2, iv p3, iv (3 : Int32), iv ln, rv r_1920, rv r_1923, iv s0, rv r_1930, rv r_1935, iv s1, rv r_1944, rv r_1951, iv s2, rv b1963, iv (1 : Int32), iv (0 : Int32)] [])) t → Steps p.tables e below (s₁.setTop (entryFrame m #[(.int p0), (.int p1), (.int p2), (.int p3)] maxLocals)) t := fun t kt => pre2479 _ (st2480.trans kt)
        have XF2482 : Ext h1951 h2480 := own_ext_keep XF2430 Kc2480 (own_all3 zF_b1963 zF_b2137_1970 zF_na_2324)
        rcases own_sync p2 l4 with ⟨hs2483a, hs2483b⟩ | ⟨hs2483a, hs2483b⟩
        · rw [← hs2] at hs2483a
          have F2484 : Fld Z h2480 b1963 "com/example/homethread/homethread/cli/ScenarioReport" "differs" "Z" (.int (1 : Int32)) := own_fldcast J2480_2 (own_dif0 hs2483b)
          have pre2485 : ∀ t, Steps p.tables e below (T2480.setTop (mkF m 274 #[iv p0, iv p1, iv p2, iv p3, iv (3 : Int32), iv ln, rv r_1920, rv r_1923, iv s0, rv r_1930, rv r_1935, iv s1, rv r_1944, rv r_1951, iv s2, rv b1963, iv (1 : Int32), iv (1 : Int32)] [(.ref b1963)])) t → Steps p.tables e below (s₁.setTop (entryFrame m #[(.int p0), (.int p1), (.int p2), (.int p3)] maxLocals)) t := fun t kt => by
            refine pre2481 _ ?_
            show Steps p.tables e below (T2480.setTop (mkF m 250 #[iv p0, iv p1, iv p2, iv p3, iv (3 : Int32), iv ln, rv r_1920, rv r_1923, iv s0, rv r_1930, rv r_1935, iv s1, rv r_1944, rv r_1951, iv s2, rv b1963, iv (1 : Int32), iv (0 : Int32)] [])) _
            refine XS.iload X2480.here hx rfl (hb hby at_250) rfl ?_
            refine XS.ifNo X2480.here hx rfl (hb hby at_252) rfl (XT.i0_ne_f (by decide)) ?_
            refine XS.iload X2480.here hx rfl (hb hby at_255) rfl ?_
            refine XS.ifNo X2480.here hx rfl (hb hby at_257) rfl (XT.i0_ne_f hs2483a) ?_
            refine XS.iconst X2480.here hx rfl (hb hby at_260) ?_
            refine XS.goto X2480.here hx rfl (pc0 := 261) (pc' := 265) rfl (hb hby at_261) (by decide) (by decide) ?_
            refine XS.istore X2480.here hx rfl (hb hby at_265) rfl (l' := #[iv p0, iv p1, iv p2, iv p3, iv (3 : Int32), iv ln, rv r_1920, rv r_1923, iv s0, rv r_1930, rv r_1935, iv s1, rv r_1944, rv r_1951, iv s2, rv b1963, iv (1 : Int32), iv (1 : Int32)]) rfl ?_
            refine XS.iload X2480.here hx rfl (hb hby at_267) rfl ?_
            show Steps p.tables e below (T2480.setTop (mkF m 269 #[iv p0, iv p1, iv p2, iv p3, iv (3 : Int32), iv ln, rv r_1920, rv r_1923, iv s0, rv r_1930, rv r_1935, iv s1, rv r_1944, rv r_1951, iv s2, rv b1963, iv (1 : Int32), iv (1 : Int32)] [(.int (1 : Int32))])) _
            refine XS.ifNo X2480.here hx rfl (hb hby at_269) rfl (XT.i0_eq_f (by decide)) ?_
            refine XS.aload X2480.here hx rfl (hb hby at_272) rfl rfl ?_
            exact kt
          obtain ⟨cq2486, kq2486, q2486a, q2486b, q2486c⟩ := isOf hZ e2480 J2480_0
          obtain ⟨_, _, ⟨T2486, L2486, k2486, n2486⟩, -, X2486, ⟨Lc2486, hQ2486, l2486, y2486, z2486⟩, st2486⟩ := X2480.virtualBack hx (y := (⟨"com/example/homethread/homethread/cli/ScenarioReport", "exitStatus", "()I"⟩ : MethodName)) (z := (⟨"com/example/homethread/homethread/cli/ScenarioReport", "exitStatus", "()I"⟩ : MethodName)) hown (mvT hZ (W 82 rfl)) (mvT hZ (W 83 rfl)) (notFace_of_selects (args := #[]) (mvT hZ (W 85 rfl))) (mvT hZ (W 85 rfl)) (mvT hZ (W 84 rfl)) (by decide) (backOf (W := 0) (rm_exitStatus17_1 l Z a0 hw [] b1963 h2480 n0 O2480 F2484) hZ (W 86 rfl) (W 51 rfl) (by decide) (by decide)) q2486a q2486c (g := (mkF m 274 #[iv p0, iv p1, iv p2, iv p3, iv (3 : Int32), iv ln, rv r_1920, rv r_1923, iv s0, rv r_1930, rv r_1935, iv s1, rv r_1944, rv r_1951, iv s2, rv b1963, iv (1 : Int32), iv (1 : Int32)] [(.ref b1963)])) rfl (by rw [hml]; rfl) (Steps.refl _) (argsL := []) (rest := []) (lenOf pd_50 rfl) rfl (by show 2 * 0 + _ ≤ _; exact Nat.le_of_eq rfl) (hb hby at_274) (fun _ _ => ⟨rfl, e2480, (by decide : 21 + 0 ≤ _), (by decide : 63 + 0 ≤ _)⟩)
          dsimp only [Pt.U, Pt.locs, Pt.cells, Pt.slots] at X2486 l2486 y2486 z2486 st2486 hQ2486
          replace l2486 := l2486.symm
          replace y2486 : 21 = k2486 := y2486.symm
          replace z2486 : 63 = n2486 := z2486.symm
          subst l2486 y2486 z2486
          obtain ⟨rfl, M2486, e2486⟩ := hQ2486
          have N2486 := Fr.app N2480 M2486
          have pre2487 : ∀ t, Steps p.tables e below (T2486.setTop (mkF m 277 #[iv p0, iv p1, iv p2, iv p3, iv (3 : Int32), iv ln, rv r_1920, rv r_1923, iv s0, rv r_1930, rv r_1935, iv s1, rv r_1944, rv r_1951, iv s2, rv b1963, iv (1 : Int32), iv (1 : Int32)] [(.int (1 : Int32))])) t → Steps p.tables e below (s₁.setTop (entryFrame m #[(.int p0), (.int p1), (.int p2), (.int p3)] maxLocals)) t := fun t kt => pre2485 _ (st2486.trans kt)
          have pre2488 : ∀ t, Steps p.tables e below (T2486.setTop (mkF m 279 #[iv p0, iv p1, iv p2, iv p3, iv (3 : Int32), iv ln, rv r_1920, rv r_1923, iv s0, rv r_1930, rv r_1935, iv s1, rv r_1944, rv r_1951, iv s2, rv b1963, iv (1 : Int32), iv (1 : Int32)] [(.int (1 : Int32)), (.int (1 : Int32))])) t → Steps p.tables e below (s₁.setTop (entryFrame m #[(.int p0), (.int p1), (.int p2), (.int p3)] maxLocals)) t := fun t kt => by
            refine pre2487 _ ?_
            show Steps p.tables e below (T2486.setTop (mkF m 277 #[iv p0, iv p1, iv p2, iv p3, iv (3 : Int32), iv ln, rv r_1920, rv r_1923, iv s0, rv r_1930, rv r_1935, iv s1, rv r_1944, rv r_1951, iv s2, rv b1963, iv (1 : Int32), iv (1 : Int32)] [(.int (1 : Int32))])) _
            refine XS.iload X2486.here hx rfl (hb hby at_277) rfl ?_
            exact kt
          obtain ⟨_, _, ⟨T2489, L2489, k2489, n2489⟩, -, X2489, ⟨Lc2489, hQ2489, l2489, y2489, z2489⟩, st2489⟩ := Jvm.LawKit.callS X2486 hx (y := (⟨"com/example/homethread/homethread/cli/ScenarioReportExitStatusPinLaw", "want", "(Z)I"⟩ : MethodName)) hown (mvT hZ (W 139 rfl)) (mvT hZ (W 140 rfl)) (mvT hZ (W 2 rfl)) (mvT hZ (W 141 rfl)) (by decide) (backOf (W := 1) (rm_want26_1 l Z a0 hw [] h2480 n0 O2480) hZ (W 141 rfl) (W 2 rfl) (by decide) (by decide)) (g := (mkF m 279 #[iv p0, iv p1, iv p2, iv p3, iv (3 : Int32), iv ln, rv r_1920, rv r_1923, iv s0, rv r_1930, rv r_1935, iv s1, rv r_1944, rv r_1951, iv s2, rv b1963, iv (1 : Int32), iv (1 : Int32)] [(.int (1 : Int32)), (.int (1 : Int32))])) rfl (by rw [hml]; rfl) (argsL := [(.int (1 : Int32))]) (rest := [(.int (1 : Int32))]) (lenOf pd_52 rfl) rfl (by show 2 * 0 + _ ≤ _; exact Nat.le_of_eq rfl) (hb hby at_279) (fun _ _ => ⟨rfl, e2486, (by decide : 21 + 0 ≤ _), (by decide : 63 + 0 ≤ _)⟩)
          dsimp only [Pt.U, Pt.locs, Pt.cells, Pt.slots] at X2489 l2489 y2489 z2489 st2489 hQ2489
          replace l2489 := l2489.symm
          replace y2489 : 21 = k2489 := y2489.symm
          replace z2489 : 63 = n2489 := z2489.symm
          subst l2489 y2489 z2489
          obtain ⟨rfl, M2489, e2489⟩ := hQ2489
          have N2489 := Fr.app N2486 M2489
          have pre2490 : ∀ t, Steps p.tables e below (T2489.setTop (mkF m 282 #[iv p0, iv p1, iv p2, iv p3, iv (3 : Int32), iv ln, rv r_1920, rv r_1923, iv s0, rv r_1930, rv r_1935, iv s1, rv r_1944, rv r_1951, iv s2, rv b1963, iv (1 : Int32), iv (1 : Int32)] [(.int (1 : Int32)), (.int (1 : Int32))])) t → Steps p.tables e below (s₁.setTop (entryFrame m #[(.int p0), (.int p1), (.int p2), (.int p3)] maxLocals)) t := fun t kt => pre2488 _ (st2489 _ kt)
          have pre2491 : ∀ t, Steps p.tables e below (T2489.setTop (mkF m 299 #[iv p0, iv p1, iv p2, iv p3, iv (3 : Int32), iv ln, rv r_1920, rv r_1923, iv s0, rv r_1930, rv r_1935, iv s1, rv r_1944, rv r_1951, iv s2, rv b1963, iv (1 : Int32), iv (1 : Int32)] [(.ref b1963)])) t → Steps p.tables e below (s₁.setTop (entryFrame m #[(.int p0), (.int p1), (.int p2), (.int p3)] maxLocals)) t := fun t kt => by
            refine pre2490 _ ?_
            show Steps p.tables e below (T2489.setTop (mkF m 282 #[iv p0, iv p1, iv p2, iv p3, iv (3 : Int32), iv ln, rv r_1920, rv r_1923, iv s0, rv r_1930, rv r_1935, iv s1, rv r_1944, rv r_1951, iv s2, rv b1963, iv (1 : Int32), iv (1 : Int32)] [(.int (1 : Int32)), (.int (1 : Int32))])) _
            refine XS.icmpNo X2489.here hx rfl (hb hby at_282) rfl (XT.ii_ne_f (by decide)) ?_
            refine XS.iconst X2489.here hx rfl (hb hby at_285) ?_
            refine XS.goto X2489.here hx rfl (pc0 := 286) (pc' := 290) rfl (hb hby at_286) (by decide) (by decide) ?_
            refine XS.istore X2489.here hx rfl (hb hby at_290) rfl (l' := #[iv p0, iv p1, iv p2, iv p3, iv (3 : Int32), iv ln, rv r_1920, rv r_1923, iv s0, rv r_1930, rv r_1935, iv s1, rv r_1944, rv r_1951, iv s2, rv b1963, iv (1 : Int32), iv (1 : Int32)]) rfl ?_
            refine XS.iload X2489.here hx rfl (hb hby at_292) rfl ?_
            refine XS.ifNo X2489.here hx rfl (hb hby at_294) rfl (XT.i0_eq_f (by decide)) ?_
            refine XS.aload X2489.here hx rfl (hb hby at_297) rfl rfl ?_
            exact kt
          obtain ⟨cq2492, kq2492, q2492a, q2492b, q2492c⟩ := isOf hZ e2489 J2480_0
          obtain ⟨_, _, ⟨T2492, L2492, k2492, n2492⟩, -, X2492, ⟨Lc2492, hQ2492, l2492, y2492, z2492⟩, st2492⟩ := X2489.virtualBack hx (y := (⟨"com/example/homethread/homethread/cli/ScenarioReport", "exitStatus", "()I"⟩ : MethodName)) (z := (⟨"com/example/homethread/homethread/cli/ScenarioReport", "exitStatus", "()I"⟩ : MethodName)) hown (mvT hZ (W 82 rfl)) (mvT hZ (W 83 rfl)) (notFace_of_selects (args := #[]) (mvT hZ (W 85 rfl))) (mvT hZ (W 85 rfl)) (mvT hZ (W 84 rfl)) (by decide) (backOf (W := 0) (rm_exitStatus17_1 l Z a0 hw [] b1963 h2480 n0 O2480 F2484) hZ (W 86 rfl) (W 51 rfl) (by decide) (by decide)) q2492a q2492c (g := (mkF m 299 #[iv p0, iv p1, iv p2, iv p3, iv (3 : Int32), iv ln, rv r_1920, rv r_1923, iv s0, rv r_1930, rv r_1935, iv s1, rv r_1944, rv r_1951, iv s2, rv b1963, iv (1 : Int32), iv (1 : Int32)] [(.ref b1963)])) rfl (by rw [hml]; rfl) (Steps.refl _) (argsL := []) (rest := []) (lenOf pd_50 rfl) rfl (by show 2 * 0 + _ ≤ _; exact Nat.le_of_eq rfl) (hb hby at_299) (fun _ _ => ⟨rfl, e2489, (by decide : 21 + 0 ≤ _), (by decide : 63 + 0 ≤ _)⟩)
          dsimp only [Pt.U, Pt.locs, Pt.cells, Pt.slots] at X2492 l2492 y2492 z2492 st2492 hQ2492
          replace l2492 := l2492.symm
          replace y2492 : 21 = k2492 := y2492.symm
          replace z2492 : 63 = n2492 := z2492.symm
          subst l2492 y2492 z2492
          obtain ⟨rfl, M2492, e2492⟩ := hQ2492
          have N2492 := Fr.app N2489 M2492
          have pre2493 : ∀ t, Steps p.tables e below (T2492.setTop (mkF m 302 #[iv p0, iv p1, iv p2, iv p3, iv (3 : Int32), iv ln, rv r_1920, rv r_1923, iv s0, rv r_1930, rv r_1935, iv s1, rv r_1944, rv r_1951, iv s2, rv b1963, iv (1 : Int32), iv (1 : Int32)] [(.int (1 : Int32))])) t → Steps p.tables e below (s₁.setTop (entryFrame m #[(.int p0), (.int p1), (.int p2), (.int p3)] maxLocals)) t := fun t kt => pre2491 _ (st2492.trans kt)
          have pre2494 : ∀ t, Steps p.tables e below (T2492.setTop (mkF m 304 #[iv p0, iv p1, iv p2, iv p3, iv (3 : Int32), iv ln, rv r_1920, rv r_1923, iv s0, rv r_1930, rv r_1935, iv s1, rv r_1944, rv r_1951, iv s2, rv b1963, iv (1 : Int32), iv (1 : Int32)] [(.int (1 : Int32)), (.int (1 : Int32))])) t → Steps p.tables e below (s₁.setTop (entryFrame m #[(.int p0), (.int p1), (.int p2), (.int p3)] maxLocals)) t := fun t kt => by
            refine pre2493 _ ?_
            show Steps p.tables e below (T2492.setTop (mkF m 302 #[iv p0, iv p1, iv p2, iv p3, iv (3 : Int32), iv ln, rv r_1920, rv r_1923, iv s0, rv r_1930, rv r_1935, iv s1, rv r_1944, rv r_1951, iv s2, rv b1963, iv (1 : Int32), iv (1 : Int32)] [(.int (1 : Int32))])) _
            refine XS.iload X2492.here hx rfl (hb hby at_302) rfl ?_
            exact kt
          obtain ⟨_, _, ⟨T2495, L2495, k2495, n2495⟩, -, X2495, ⟨Lc2495, hQ2495, l2495, y2495, z2495⟩, st2495⟩ := Jvm.LawKit.callS X2492 hx (y := (⟨"com/example/homethread/homethread/cli/ScenarioReportExitStatusPinLaw", "want", "(Z)I"⟩ : MethodName)) hown (mvT hZ (W 139 rfl)) (mvT hZ (W 140 rfl)) (mvT hZ (W 2 rfl)) (mvT hZ (W 141 rfl)) (by decide) (backOf (W := 1) (rm_want26_1 l Z a0 hw [] h2480 n0 O2480) hZ (W 141 rfl) (W 2 rfl) (by decide) (by decide)) (g := (mkF m 304 #[iv p0, iv p1, iv p2, iv p3, iv (3 : Int32), iv ln, rv r_1920, rv r_1923, iv s0, rv r_1930, rv r_1935, iv s1, rv r_1944, rv r_1951, iv s2, rv b1963, iv (1 : Int32), iv (1 : Int32)] [(.int (1 : Int32)), (.int (1 : Int32))])) rfl (by rw [hml]; rfl) (argsL := [(.int (1 : Int32))]) (rest := [(.int (1 : Int32))]) (lenOf pd_52 rfl) rfl (by show 2 * 0 + _ ≤ _; exact Nat.le_of_eq rfl) (hb hby at_304) (fun _ _ => ⟨rfl, e2492, (by decide : 21 + 0 ≤ _), (by decide : 63 + 0 ≤ _)⟩)
          dsimp only [Pt.U, Pt.locs, Pt.cells, Pt.slots] at X2495 l2495 y2495 z2495 st2495 hQ2495
          replace l2495 := l2495.symm
          replace y2495 : 21 = k2495 := y2495.symm
          replace z2495 : 63 = n2495 := z2495.symm
          subst l2495 y2495 z2495
          obtain ⟨rfl, M2495, e2495⟩ := hQ2495
          have N2495 := Fr.app N2492 M2495
          have pre2496 : ∀ t, Steps p.tables e below (T2495.setTop (mkF m 307 #[iv p0, iv p1, iv p2, iv p3, iv (3 : Int32), iv ln, rv r_1920, rv r_1923, iv s0, rv r_1930, rv r_1935, iv s1, rv r_1944, rv r_1951, iv s2, rv b1963, iv (1 : Int32), iv (1 : Int32)] [(.int (1 : Int32)), (.int (1 : Int32))])) t → Steps p.tables e below (s₁.setTop (entryFrame m #[(.int p0), (.int p1), (.int p2), (.int p3)] maxLocals)) t := fun t kt => pre2494 _ (st2495 _ kt)
          have pre2497 : ∀ t, Steps p.tables e below (T2495.setTop (mkF m 319 #[iv p0, iv p1, iv p2, iv p3, iv (3 : Int32), iv ln, rv r_1920, rv r_1923, iv s0, rv r_1930, rv r_1935, iv s1, rv r_1944, rv r_1951, iv s2, rv b1963, iv (1 : Int32), iv (1 : Int32)] [(.int (1 : Int32))])) t → Steps p.tables e below (s₁.setTop (entryFrame m #[(.int p0), (.int p1), (.int p2), (.int p3)] maxLocals)) t := fun t kt => by
            refine pre2496 _ ?_
            show Steps p.tables e below (T2495.setTop (mkF m 307 #[iv p0, iv p1, iv p2, iv p3, iv (3 : Int32), iv ln, rv r_1920, rv r_1923, iv s0, rv r_1930, rv r_1935, iv s1, rv r_1944, rv r_1951, iv s2, rv b1963, iv (1 : Int32), iv (1 : Int32)] [(.int (1 : Int32)), (.int (1 : Int32))])) _
            refine XS.icmpNo X2495.here hx rfl (hb hby at_307) rfl (XT.ii_ne_f (by decide)) ?_
            refine XS.iconst X2495.here hx rfl (hb hby at_310) ?_
            refine XS.goto X2495.here hx rfl (pc0 := 311) (pc' := 315) rfl (hb hby at_311) (by decide) (by decide) ?_
            refine XS.istore X2495.here hx rfl (hb hby at_315) rfl (l' := #[iv p0, iv p1, iv p2, iv p3, iv (3 : Int32), iv ln, rv r_1920, rv r_1923, iv s0, rv r_1930, rv r_1935, iv s1, rv r_1944, rv r_1951, iv s2, rv b1963, iv (1 : Int32), iv (1 : Int32)]) rfl ?_
            refine XS.iload X2495.here hx rfl (hb hby at_317) rfl ?_
            exact kt
          obtain ⟨fs, hr, hrun, hended, hW, hsame⟩ := X2495.leave (v := some (.int (1 : Int32))) (fun h => by rw [Bd.returns] at h; cases h)
          refine ⟨_, _, pre2497 _ (retN X2495 hx (t := .boolean) Bd.returns (by simp) (hb hby at_319) hr), hrun, hended, _, _, rfl, ?_, ⟨_, rfl⟩, hW, hsame.mono (by decide) (by decide)⟩
          show Q_law Z p0 p1 p2 p3 cz ad kd h0 n0 _ T2495.heap _
          rw [e2495]
          exact ⟨rfl, N2495⟩
        · rw [← hs2] at hs2483a
          have F2498 : Fld Z h2480 b1963 "com/example/homethread/homethread/cli/ScenarioReport" "differs" "Z" (.int (0 : Int32)) := own_fldcast J2480_2 (own_dif1 hs2483b)
          have pre2499 : ∀ t, Steps p.tables e below (T2480.setTop (mkF m 274 #[iv p0, iv p1, iv p2, iv p3, iv (3 : Int32), iv ln, rv r_1920, rv r_1923, iv s0, rv r_1930, rv r_1935, iv s1, rv r_1944, rv r_1951, iv s2, rv b1963, iv (1 : Int32), iv (0 : Int32)] [(.ref b1963)])) t → Steps p.tables e below (s₁.setTop (entryFrame m #[(.int p0), (.int p1), (.int p2), (.int p3)] maxLocals)) t := fun t kt => by
            refine pre2481 _ ?_
            show Steps p.tables e below (T2480.setTop (mkF m 250 #[iv p0, iv p1, iv p2, iv p3, iv (3 : Int32), iv ln, rv r_1920, rv r_1923, iv s0, rv r_1930, rv r_1935, iv s1, rv r_1944, rv r_1951, iv s2, rv b1963, iv (1 : Int32), iv (0 : Int32)] [])) _
            refine XS.iload X2480.here hx rfl (hb hby at_250) rfl ?_
            refine XS.ifNo X2480.here hx rfl (hb hby at_252) rfl (XT.i0_ne_f (by decide)) ?_
            refine XS.iload X2480.here hx rfl (hb hby at_255) rfl ?_
            refine XS.ifYes X2480.here hx rfl (pc0 := 257) (pc' := 264) rfl (hb hby at_257) rfl (XT.i0_ne_t hs2483a) (by decide) (by decide) ?_
            refine XS.iconst X2480.here hx rfl (hb hby at_264) ?_
            refine XS.istore X2480.here hx rfl (hb hby at_265) rfl (l' := #[iv p0, iv p1, iv p2, iv p3, iv (3 : Int32), iv ln, rv r_1920, rv r_1923, iv s0, rv r_1930, rv r_1935, iv s1, rv r_1944, rv r_1951, iv s2, rv b1963, iv (1 : Int32), iv (0 : Int32)]) rfl ?_
            refine XS.iload X2480.here hx rfl (hb hby at_267) rfl ?_
            refine XS.ifNo X2480.here hx rfl (hb hby at_269) rfl (XT.i0_eq_f (by decide)) ?_
            show Steps p.tables e below (T2480.setTop (mkF m 272 #[iv p0, iv p1, iv p2, iv p3, iv (3 : Int32), iv ln, rv r_1920, rv r_1923, iv s0, rv r_1930, rv r_1935, iv s1, rv r_1944, rv r_1951, iv s2, rv b1963, iv (1 : Int32), iv (0 : Int32)] [])) _
            refine XS.aload X2480.here hx rfl (hb hby at_272) rfl rfl ?_
            exact kt
          obtain ⟨cq2500, kq2500, q2500a, q2500b, q2500c⟩ := isOf hZ e2480 J2480_0
          obtain ⟨_, _, ⟨T2500, L2500, k2500, n2500⟩, -, X2500, ⟨Lc2500, hQ2500, l2500, y2500, z2500⟩, st2500⟩ := X2480.virtualBack hx (y := (⟨"com/example/homethread/homethread/cli/ScenarioReport", "exitStatus", "()I"⟩ : MethodName)) (z := (⟨"com/example/homethread/homethread/cli/ScenarioReport", "exitStatus", "()I"⟩ : MethodName)) hown (mvT hZ (W 82 rfl)) (mvT hZ (W 83 rfl)) (notFace_of_selects (args := #[]) (mvT hZ (W 85 rfl))) (mvT hZ (W 85 rfl)) (mvT hZ (W 84 rfl)) (by decide) (backOf (W := 0) (rm_exitStatus17_0 l Z a0 hw [] b1963 h2480 n0 O2480 F2498) hZ (W 86 rfl) (W 51 rfl) (by decide) (by decide)) q2500a q2500c (g := (mkF m 274 #[iv p0, iv p1, iv p2, iv p3, iv (3 : Int32), iv ln, rv r_1920, rv r_1923, iv s0, rv r_1930, rv r_1935, iv s1, rv r_1944, rv r_1951, iv s2, rv b1963, iv (1 : Int32), iv (0 : Int32)] [(.ref b1963)])) rfl (by rw [hml]; rfl) (Steps.refl _) (argsL := []) (rest := []) (lenOf pd_50 rfl) rfl (by show 2 * 0 + _ ≤ _; exact Nat.le_of_eq rfl) (hb hby at_274) (fun _ _ => ⟨rfl, e2480, (by decide : 21 + 0 ≤ _), (by decide : 63 + 0 ≤ _)⟩)
          dsimp only [Pt.U, Pt.locs, Pt.cells, Pt.slots] at X2500 l2500 y2500 z2500 st2500 hQ2500
          replace l2500 := l2500.symm
          replace y2500 : 21 = k2500 := y2500.symm
          replace z2500 : 63 = n2500 := z2500.symm
          subst l2500 y2500 z2500
          obtain ⟨rfl, M2500, e2500⟩ := hQ2500
          have N2500 := Fr.app N2480 M2500
          have pre2501 : ∀ t, Steps p.tables e below (T2500.setTop (mkF m 277 #[iv p0, iv p1, iv p2, iv p3, iv (3 : Int32), iv ln, rv r_1920, rv r_1923, iv s0, rv r_1930, rv r_1935, iv s1, rv r_1944, rv r_1951, iv s2, rv b1963, iv (1 : Int32), iv (0 : Int32)] [(.int (0 : Int32))])) t → Steps p.tables e below (s₁.setTop (entryFrame m #[(.int p0), (.int p1), (.int p2), (.int p3)] maxLocals)) t := fun t kt => pre2499 _ (st2500.trans kt)
          have pre2502 : ∀ t, Steps p.tables e below (T2500.setTop (mkF m 279 #[iv p0, iv p1, iv p2, iv p3, iv (3 : Int32), iv ln, rv r_1920, rv r_1923, iv s0, rv r_1930, rv r_1935, iv s1, rv r_1944, rv r_1951, iv s2, rv b1963, iv (1 : Int32), iv (0 : Int32)] [(.int (0 : Int32)), (.int (0 : Int32))])) t → Steps p.tables e below (s₁.setTop (entryFrame m #[(.int p0), (.int p1), (.int p2), (.int p3)] maxLocals)) t := fun t kt => by
            refine pre2501 _ ?_
            show Steps p.tables e below (T2500.setTop (mkF m 277 #[iv p0, iv p1, iv p2, iv p3, iv (3 : Int32), iv ln, rv r_1920, rv r_1923, iv s0, rv r_1930, rv r_1935, iv s1, rv r_1944, rv r_1951, iv s2, rv b1963, iv (1 : Int32), iv (0 : Int32)] [(.int (0 : Int32))])) _
            refine XS.iload X2500.here hx rfl (hb hby at_277) rfl ?_
            exact kt
          obtain ⟨_, _, ⟨T2503, L2503, k2503, n2503⟩, -, X2503, ⟨Lc2503, hQ2503, l2503, y2503, z2503⟩, st2503⟩ := Jvm.LawKit.callS X2500 hx (y := (⟨"com/example/homethread/homethread/cli/ScenarioReportExitStatusPinLaw", "want", "(Z)I"⟩ : MethodName)) hown (mvT hZ (W 139 rfl)) (mvT hZ (W 140 rfl)) (mvT hZ (W 2 rfl)) (mvT hZ (W 141 rfl)) (by decide) (backOf (W := 1) (rm_want26_0 l Z a0 hw [] h2480 n0 O2480) hZ (W 141 rfl) (W 2 rfl) (by decide) (by decide)) (g := (mkF m 279 #[iv p0, iv p1, iv p2, iv p3, iv (3 : Int32), iv ln, rv r_1920, rv r_1923, iv s0, rv r_1930, rv r_1935, iv s1, rv r_1944, rv r_1951, iv s2, rv b1963, iv (1 : Int32), iv (0 : Int32)] [(.int (0 : Int32)), (.int (0 : Int32))])) rfl (by rw [hml]; rfl) (argsL := [(.int (0 : Int32))]) (rest := [(.int (0 : Int32))]) (lenOf pd_52 rfl) rfl (by show 2 * 0 + _ ≤ _; exact Nat.le_of_eq rfl) (hb hby at_279) (fun _ _ => ⟨rfl, e2500, (by decide : 21 + 0 ≤ _), (by decide : 63 + 0 ≤ _)⟩)
          dsimp only [Pt.U, Pt.locs, Pt.cells, Pt.slots] at X2503 l2503 y2503 z2503 st2503 hQ2503
          replace l2503 := l2503.symm
          replace y2503 : 21 = k2503 := y2503.symm
          replace z2503 : 63 = n2503 := z2503.symm
          subst l2503 y2503 z2503
          obtain ⟨rfl, M2503, e2503⟩ := hQ2503
          have N2503 := Fr.app N2500 M2503
          have pre2504 : ∀ t, Steps p.tables e below (T2503.setTop (mkF m 282 #[iv p0, iv p1, iv p2, iv p3, iv (3 : Int32), iv ln, rv r_1920, rv r_1923, iv s0, rv r_1930, rv r_1935, iv s1, rv r_1944, rv r_1951, iv s2, rv b1963, iv (1 : Int32), iv (0 : Int32)] [(.int (0 : Int32)), (.int (0 : Int32))])) t → Steps p.tables e below (s₁.setTop (entryFrame m #[(.int p0), (.int p1), (.int p2), (.int p3)] maxLocals)) t := fun t kt => pre2502 _ (st2503 _ kt)
          have pre2505 : ∀ t, Steps p.tables e below (T2503.setTop (mkF m 299 #[iv p0, iv p1, iv p2, iv p3, iv (3 : Int32), iv ln, rv r_1920, rv r_1923, iv s0, rv r_1930, rv r_1935, iv s1, rv r_1944, rv r_1951, iv s2, rv b1963, iv (1 : Int32), iv (0 : Int32)] [(.ref b1963)])) t → Steps p.tables e below (s₁.setTop (entryFrame m #[(.int p0), (.int p1), (.int p2), (.int p3)] maxLocals)) t := fun t kt => by
            refine pre2504 _ ?_
            show Steps p.tables e below (T2503.setTop (mkF m 282 #[iv p0, iv p1, iv p2, iv p3, iv (3 : Int32), iv ln, rv r_1920, rv r_1923, iv s0, rv r_1930, rv r_1935, iv s1, rv r_1944, rv r_1951, iv s2, rv b1963, iv (1 : Int32), iv (0 : Int32)] [(.int (0 : Int32)), (.int (0 : Int32))])) _
            refine XS.icmpNo X2503.here hx rfl (hb hby at_282) rfl (XT.ii_ne_f (by decide)) ?_
            refine XS.iconst X2503.here hx rfl (hb hby at_285) ?_
            refine XS.goto X2503.here hx rfl (pc0 := 286) (pc' := 290) rfl (hb hby at_286) (by decide) (by decide) ?_
            refine XS.istore X2503.here hx rfl (hb hby at_290) rfl (l' := #[iv p0, iv p1, iv p2, iv p3, iv (3 : Int32), iv ln, rv r_1920, rv r_1923, iv s0, rv r_1930, rv r_1935, iv s1, rv r_1944, rv r_1951, iv s2, rv b1963, iv (1 : Int32), iv (0 : Int32)]) rfl ?_
            refine XS.iload X2503.here hx rfl (hb hby at_292) rfl ?_
            refine XS.ifNo X2503.here hx rfl (hb hby at_294) rfl (XT.i0_eq_f (by decide)) ?_
            refine XS.aload X2503.here hx rfl (hb hby at_297) rfl rfl ?_
            exact kt
          obtain ⟨cq2506, kq2506, q2506a, q2506b, q2506c⟩ := isOf hZ e2503 J2480_0
          obtain ⟨_, _, ⟨T2506, L2506, k2506, n2506⟩, -, X2506, ⟨Lc2506, hQ2506, l2506, y2506, z2506⟩, st2506⟩ := X2503.virtualBack hx (y := (⟨"com/example/homethread/homethread/cli/ScenarioReport", "exitStatus", "()I"⟩ : MethodName)) (z := (⟨"com/example/homethread/homethread/cli/ScenarioReport", "exitStatus", "()I"⟩ : MethodName)) hown (mvT hZ (W 82 rfl)) (mvT hZ (W 83 rfl)) (notFace_of_selects (args := #[]) (mvT hZ (W 85 rfl))) (mvT hZ (W 85 rfl)) (mvT hZ (W 84 rfl)) (by decide) (backOf (W := 0) (rm_exitStatus17_0 l Z a0 hw [] b1963 h2480 n0 O2480 F2498) hZ (W 86 rfl) (W 51 rfl) (by decide) (by decide)) q2506a q2506c (g := (mkF m 299 #[iv p0, iv p1, iv p2, iv p3, iv (3 : Int32), iv ln, rv r_1920, rv r_1923, iv s0, rv r_1930, rv r_1935, iv s1, rv r_1944, rv r_1951, iv s2, rv b1963, iv (1 : Int32), iv (0 : Int32)] [(.ref b1963)])) rfl (by rw [hml]; rfl) (Steps.refl _) (argsL := []) (rest := []) (lenOf pd_50 rfl) rfl (by show 2 * 0 + _ ≤ _; exact Nat.le_of_eq rfl) (hb hby at_299) (fun _ _ => ⟨rfl, e2503, (by decide : 21 + 0 ≤ _), (by decide : 63 + 0 ≤ _)⟩)
          dsimp only [Pt.U, Pt.locs, Pt.cells, Pt.slots] at X2506 l2506 y2506 z2506 st2506 hQ2506
          replace l2506 := l2506.symm
          replace y2506 : 21 = k2506 := y2506.symm
          replace z2506 : 63 = n2506 := z2506.symm
          subst l2506 y2506 z2506
          obtain ⟨rfl, M2506, e2506⟩ := hQ2506
          have N2506 := Fr.app N2503 M2506
          have pre2507 : ∀ t, Steps p.tables e below (T2506.setTop (mkF m 302 #[iv p0, iv p1, iv p2, iv p3, iv (3 : Int32), iv ln, rv r_1920, rv r_1923, iv s0, rv r_1930, rv r_1935, iv s1, rv r_1944, rv r_1951, iv s2, rv b1963, iv (1 : Int32), iv (0 : Int32)] [(.int (0 : Int32))])) t → Steps p.tables e below (s₁.setTop (entryFrame m #[(.int p0), (.int p1), (.int p2), (.int p3)] maxLocals)) t := fun t kt => pre2505 _ (st2506.trans kt)
          have pre2508 : ∀ t, Steps p.tables e below (T2506.setTop (mkF m 304 #[iv p0, iv p1, iv p2, iv p3, iv (3 : Int32), iv ln, rv r_1920, rv r_1923, iv s0, rv r_1930, rv r_1935, iv s1, rv r_1944, rv r_1951, iv s2, rv b1963, iv (1 : Int32), iv (0 : Int32)] [(.int (0 : Int32)), (.int (0 : Int32))])) t → Steps p.tables e below (s₁.setTop (entryFrame m #[(.int p0), (.int p1), (.int p2), (.int p3)] maxLocals)) t := fun t kt => by
            refine pre2507 _ ?_
            show Steps p.tables e below (T2506.setTop (mkF m 302 #[iv p0, iv p1, iv p2, iv p3, iv (3 : Int32), iv ln, rv r_1920, rv r_1923, iv s0, rv r_1930, rv r_1935, iv s1, rv r_1944, rv r_1951, iv s2, rv b1963, iv (1 : Int32), iv (0 : Int32)] [(.int (0 : Int32))])) _
            refine XS.iload X2506.here hx rfl (hb hby at_302) rfl ?_
            exact kt
          obtain ⟨_, _, ⟨T2509, L2509, k2509, n2509⟩, -, X2509, ⟨Lc2509, hQ2509, l2509, y2509, z2509⟩, st2509⟩ := Jvm.LawKit.callS X2506 hx (y := (⟨"com/example/homethread/homethread/cli/ScenarioReportExitStatusPinLaw", "want", "(Z)I"⟩ : MethodName)) hown (mvT hZ (W 139 rfl)) (mvT hZ (W 140 rfl)) (mvT hZ (W 2 rfl)) (mvT hZ (W 141 rfl)) (by decide) (backOf (W := 1) (rm_want26_0 l Z a0 hw [] h2480 n0 O2480) hZ (W 141 rfl) (W 2 rfl) (by decide) (by decide)) (g := (mkF m 304 #[iv p0, iv p1, iv p2, iv p3, iv (3 : Int32), iv ln, rv r_1920, rv r_1923, iv s0, rv r_1930, rv r_1935, iv s1, rv r_1944, rv r_1951, iv s2, rv b1963, iv (1 : Int32), iv (0 : Int32)] [(.int (0 : Int32)), (.int (0 : Int32))])) rfl (by rw [hml]; rfl) (argsL := [(.int (0 : Int32))]) (rest := [(.int (0 : Int32))]) (lenOf pd_52 rfl) rfl (by show 2 * 0 + _ ≤ _; exact Nat.le_of_eq rfl) (hb hby at_304) (fun _ _ => ⟨rfl, e2506, (by decide : 21 + 0 ≤ _), (by decide : 63 + 0 ≤ _)⟩)
          dsimp only [Pt.U, Pt.locs, Pt.cells, Pt.slots] at X2509 l2509 y2509 z2509 st2509 hQ2509
          replace l2509 := l2509.symm
          replace y2509 : 21 = k2509 := y2509.symm
          replace z2509 : 63 = n2509 := z2509.symm
          subst l2509 y2509 z2509
          obtain ⟨rfl, M2509, e2509⟩ := hQ2509
          have N2509 := Fr.app N2506 M2509
          have pre2510 : ∀ t, Steps p.tables e below (T2509.setTop (mkF m 307 #[iv p0, iv p1, iv p2, iv p3, iv (3 : Int32), iv ln, rv r_1920, rv r_1923, iv s0, rv r_1930, rv r_1935, iv s1, rv r_1944, rv r_1951, iv s2, rv b1963, iv (1 : Int32), iv (0 : Int32)] [(.int (0 : Int32)), (.int (0 : Int32))])) t → Steps p.tables e below (s₁.setTop (entryFrame m #[(.int p0), (.int p1), (.int p2), (.int p3)] maxLocals)) t := fun t kt => pre2508 _ (st2509 _ kt)
          have pre2511 : ∀ t, Steps p.tables e below (T2509.setTop (mkF m 319 #[iv p0, iv p1, iv p2, iv p3, iv (3 : Int32), iv ln, rv r_1920, rv r_1923, iv s0, rv r_1930, rv r_1935, iv s1, rv r_1944, rv r_1951, iv s2, rv b1963, iv (1 : Int32), iv (0 : Int32)] [(.int (1 : Int32))])) t → Steps p.tables e below (s₁.setTop (entryFrame m #[(.int p0), (.int p1), (.int p2), (.int p3)] maxLocals)) t := fun t kt => by
            refine pre2510 _ ?_
            show Steps p.tables e below (T2509.setTop (mkF m 307 #[iv p0, iv p1, iv p2, iv p3, iv (3 : Int32), iv ln, rv r_1920, rv r_1923, iv s0, rv r_1930, rv r_1935, iv s1, rv r_1944, rv r_1951, iv s2, rv b1963, iv (1 : Int32), iv (0 : Int32)] [(.int (0 : Int32)), (.int (0 : Int32))])) _
            refine XS.icmpNo X2509.here hx rfl (hb hby at_307) rfl (XT.ii_ne_f (by decide)) ?_
            refine XS.iconst X2509.here hx rfl (hb hby at_310) ?_
            refine XS.goto X2509.here hx rfl (pc0 := 311) (pc' := 315) rfl (hb hby at_311) (by decide) (by decide) ?_
            refine XS.istore X2509.here hx rfl (hb hby at_315) rfl (l' := #[iv p0, iv p1, iv p2, iv p3, iv (3 : Int32), iv ln, rv r_1920, rv r_1923, iv s0, rv r_1930, rv r_1935, iv s1, rv r_1944, rv r_1951, iv s2, rv b1963, iv (1 : Int32), iv (0 : Int32)]) rfl ?_
            refine XS.iload X2509.here hx rfl (hb hby at_317) rfl ?_
            exact kt
          obtain ⟨fs, hr, hrun, hended, hW, hsame⟩ := X2509.leave (v := some (.int (1 : Int32))) (fun h => by rw [Bd.returns] at h; cases h)
          refine ⟨_, _, pre2511 _ (retN X2509 hx (t := .boolean) Bd.returns (by simp) (hb hby at_319) hr), hrun, hended, _, _, rfl, ?_, ⟨_, rfl⟩, hW, hsame.mono (by decide) (by decide)⟩
          show Q_law Z p0 p1 p2 p3 cz ad kd h0 n0 _ T2509.heap _
          rw [e2509]
          exact ⟨rfl, N2509⟩
set_option maxRecDepth 65536 in
set_option maxHeartbeats 40000000 in
theorem comes_1 {Post : Tables → Env → Array Value → State → Outcome → State → Prop} (hpost : ∀ tb e args s v u, (limb_1_1.after args s (.returned v) u = true ∧ limb_1_2.after args s (.returned v) u = true ∧ True) → FrameEnd s (.returned v) u (Jvm.fieldLocs frame_1_writes args s ++ Jvm.arrayLocs frame_1_arrays args s ++ Jvm.staticLocs frame_1_statics s) 56 192 → Post tb e args s (.returned v) u) :
    ArmFor flags0 classFile x code maxLocals ret World_1 tables_1 room_1 Calls_1 rest_1 Pre_1 Post := by
  intro l hfl _ _ p e ha hc hk s m args below hf hA hF happ hP
  obtain ⟨hcalls, hrest, hpre⟩ := hP
  obtain ⟨-, -, -, hnamed, -, -, -, hat⟩ := (Spec.applies_iff hf).mp happ
  obtain ⟨hg, hn⟩ := and_e (Cond.before_iff.mp (show (Jvm.Cond.and given_1 narrow_1).before args s = true from hpre))
  obtain ⟨given_1_2, given_1_3⟩ := and_e hg
  obtain ⟨given_1_4, given_1_5⟩ := and_e given_1_3
  obtain ⟨given_1_6, given_1_7⟩ := and_e given_1_5
  obtain ⟨given_1_8, given_1_9⟩ := and_e given_1_7
  obtain ⟨w0, w1, w2, w3, rfl⟩ : ∃ w0 w1 w2 w3 : Value, args = #[w0, w1, w2, w3] := by
    have hs : args.size = 4 := by simpa [Cond.value, given_1] using given_1_2
    obtain ⟨L⟩ := args
    match L, hs with
    | [w0, w1, w2, w3], _ => exact ⟨w0, w1, w2, w3, rfl⟩
  have hw := fun d (hd : d ∈ tables_1) => atoms_spec (ws := Jvm.Cond.code x code maxLocals ret :: tables_1) hat d (List.mem_cons_of_mem _ hd)
  have W := fun {d : Jvm.Cond} (i : Nat) (q : tables_1[i]? = some d) => hw d (List.mem_of_getElem? q)
  have hfit : Fit s := fun {y c} hc i hi => by
    obtain ⟨ha, rfl⟩ := Array.getElem?_eq_some_iff.mp hc
    have q := List.all_eq_true.mp ((Array.all_eq_true_iff_forall_mem.mp hF) _ (Array.getElem_mem ha)) i (List.mem_range.mpr hi)
    simpa [Array.getElem?_eq_getElem hi] using q
  obtain ⟨hsets, hown0⟩ := atoms_of _ (rest_1_c_eq ▸ (show rest_1_c.before _ s = true from hrest))
  have hr0 := Cond.before_iff.mp hown0
  obtain ⟨i0, ei0⟩ := is_v given_1_4
  obtain rfl : w0 = (.int i0) := Option.some.inj ei0
  obtain ⟨i1, ei1⟩ := is_v given_1_6
  obtain rfl : w1 = (.int i1) := Option.some.inj ei1
  obtain ⟨i2, ei2⟩ := is_v given_1_8
  obtain rfl : w2 = (.int i2) := Option.some.inj ei2
  obtain ⟨i3, ei3⟩ := is_v given_1_9
  obtain rfl : w3 = (.int i3) := Option.some.inj ei3
  obtain ⟨cz, ev_cz⟩ := is_v (Cond.before_iff.mp (hsets _ (List.mem_of_getElem? (i := 1) rfl)))
  have S_cz : Sta s s.heap "java/lang/String" "COMPACT_STRINGS" "Z" (.int cz) := Sta.start ev_cz (Or.inl (hsets _ (List.mem_of_getElem? (i := 0) rfl)))
  have n_cz : ¬ cz = (0 : Int32) := fun z => by
    have q1 := not_v (Cond.before_iff.mp (hsets _ (List.mem_of_getElem? (i := 2) rfl)))
    subst z
    have q2 := eq_i (b := Term.int (0 : Int32)) ev_cz (Term.int_eval (0 : Int32)) rfl
    rw [q2] at q1
    cases q1
  obtain ⟨ad, ev_ad⟩ := arr_v (Cond.before_iff.mp (hsets _ (List.mem_of_getElem? (i := 15) rfl)))
  have S_ad : Sta s s.heap "java/util/ArrayList" "DEFAULTCAPACITY_EMPTY_ELEMENTDATA" "[Ljava/lang/Object;" (.ref ad) := Sta.start ev_ad (Or.inr ⟨(W 58 rfl), (hsets _ (List.mem_of_getElem? (i := 11) rfl))⟩)
  have E_ad : Exa s s.heap ad "[Ljava/lang/Object;" := Exa.start ev_ad (Cond.before_iff.mp (hsets _ (List.mem_of_getElem? (i := 16) rfl)))
  obtain ⟨kd, V_ad⟩ := own_arv0 (dv := .null) hfit ev_ad (Cond.before_iff.mp (hsets _ (List.mem_of_getElem? (i := 15) rfl))) (Cond.before_iff.mp (hsets _ (List.mem_of_getElem? (i := 17) rfl)))
  obtain ⟨n, o, h1, h2, h3, _, L, rfl, ⟨rfl, N⟩, hq⟩ := rm_law l s _ hw tables_1 i0 i1 i2 i3 cz ad kd s.heap s.heap.size (Old.start s) S_cz S_ad V_ad E_ad n_cz p e ha hc hk s m _ below hf ((Spec.applies_iff_loose hf).mp happ).1 ⟨rfl, State.Warmed39.refl s, rfl⟩ trivial
  refine ⟨n, _, h1, h2, h3, hpost _ _ _ _ _ _ ⟨Cond.after_iff.mpr rfl, Cond.after_iff.mpr (eq_i res_at (Term.int_eval (1)) rfl), trivial⟩ ⟨hq.1, hq.2.1, (hq.2.2.sift fun y hy => Or.inr (N y hy)).mono (by decide) (by decide)⟩⟩
theorem main_1_1 : Claimed_1_1 := comes_1 fun _ _ _ _ _ _ h hF => ⟨h.1, hF⟩
theorem main_1_2 : Claimed_1_2 := comes_1 fun _ _ _ _ _ _ h hF => ⟨h.2.1, hF⟩
end Jvm.Pilot.@@N@@
namespace Jvm.Pilot.@@N@@
open Jvm Jvm.ClassFile Sem Op Lib Jvm.Free Jvm.Stand Jvm.Pilot.@@N@@.Jvm.D
/-! MADE BY PROGRAM (witnessworld.py) out of the Statement's table words and the real class files: 30 classes; the members and pool entries that the words name. The judged class is class 1, her method 8. -/
namespace start1
open Jvm.ClassFile
def u (s : String) : CpInfo := .utf8 (stringToUtf16 s)
/-- a pool by its gaps: so many unusable entries, then the entry; so many at the end -/
def gap : Nat → List CpInfo → List CpInfo
  | 0, r => r
  | n + 1, r => .unusable :: gap n r
def poolList (es : List (Nat × CpInfo)) (last : Nat) : List CpInfo := es.foldr (fun e r => gap e.1 (e.2 :: r)) (gap last [])
def pool (es : List (Nat × CpInfo)) (last : Nat) : Array CpInfo := ⟨poolList es last⟩
def fileOf (pool : Array CpInfo) (this : Nat) (attrs : Array Attribute := #[]) (ms : Array MethodInfo := #[]) (fl : Nat := 33) (sup : Nat := 0) (ifs : Array Nat := #[]) (fds : Array FieldInfo := #[]) : ClassFile where
  minorVersion := 0
  majorVersion := 65
  constantPool := pool
  accessFlags := fl
  thisClass := this
  superClass := sup
  interfaces := ifs
  fields := fds
  methods := ms
  attributes := attrs
def plain (name : String) (sup : Option ClassId) : Class where
  name := name
  kind := .ordinary
  loader := none
  accessFlags := 33
  super := sup
  interfaces := #[]
  cf := none
  fields := #[]
  methods := #[]
  instanceTypes := #[]
  staticTypes := #[]
  resolved := #[]
  callSites := []
  init := .initialized
  statics := none
  mirror := none

def pool0 : Array CpInfo := pool [(5, u "<init>"), (0, u "()V"), (1, .class_ 10), (1, u "java/lang/Object")] 113

def k0c0 : Code := { maxStack := 0, maxLocals := 1, code := object_method_1_code, exceptionTable := #[], attributes := #[] }
def k0m0 : Method := { name := "<init>", desc := "()V", sig := { parameters := [], returnType := none }, accessFlags := 1, code := some k0c0 }
/-- java/lang/Object -/
def k0 : Class := { plain "java/lang/Object" none with
  accessFlags := 33
  interfaces := #[]
  cf := some (fileOf pool0 8 #[] #[{ accessFlags := 1, nameIndex := 5, descriptorIndex := 6, attributes := #[] }] 33 0 #[] #[])
  fields := #[]
  methods := #[k0m0]
  instanceTypes := #[]
  staticTypes := #[]
  resolved := Array.replicate 124 none
  statics := none }

def pool1 : Array CpInfo := pool [(2, .class_ 4), (0, .nameAndType 5 6), (0, u "java/lang/Object"), (0, u "<init>"), (0, u "()V"), (0, .class_ 8), (0, u "java/lang/String"), (0, .methodref 7 10), (0, .nameAndType 5 11), (0, u "([C)V"), (0, .methodref 13 14), (0, .class_ 15), (0, .nameAndType 16 17), (0, u "com/example/homethread/homethread/cli/ScenarioReportExitStatusPinLaw"), (0, u "str"), (0, u "(IIZ)Ljava/lang/String;"), (0, .methodref 13 19), (0, .nameAndType 20 21), (0, u "x0"), (0, u "(I)I"), (0, .methodref 13 23), (0, .nameAndType 24 21), (0, u "x1"), (2, .methodref 13 28), (0, .nameAndType 29 30), (0, u "exp"), (0, u "(II)Ljava/lang/String;"), (0, .methodref 13 32), (0, .nameAndType 33 30), (0, u "obs"), (0, .methodref 13 35), (0, .nameAndType 36 37), (0, u "same"), (0, u "(II)Z"), (0, .class_ 39), (0, u "com/example/homethread/homethread/cli/ScenarioReport"), (0, .methodref 38 3), (0, .methodref 38 42), (0, .nameAndType 43 44), (0, u "exitStatus"), (0, u "()I"), (0, .methodref 38 46), (0, .nameAndType 47 48), (0, u "expectLine"), (0, u "(Ljava/lang/String;Ljava/lang/String;)V"), (0, .methodref 13 50), (0, .nameAndType 51 52), (0, u "want"), (0, u "(Z)I"), (3, u "law"), (0, u "(IIII)Z")] 2

def k1m0 : Method := { name := "<init>", desc := "()V", sig := { parameters := [], returnType := none }, accessFlags := 2, code := none }
def k1c1 : Code := { maxStack := 6, maxLocals := 3, code := method_2_code, exceptionTable := #[], attributes := #[] }
def k1m1 : Method := { name := "str", desc := "(IIZ)Ljava/lang/String;", sig := { parameters := [.int, .int, .boolean], returnType := some (.object "java/lang/String") }, accessFlags := 10, code := some k1c1 }
def k1c2 : Code := { maxStack := 2, maxLocals := 1, code := method_3_code, exceptionTable := #[], attributes := #[] }
def k1m2 : Method := { name := "x0", desc := "(I)I", sig := { parameters := [.int], returnType := some .int }, accessFlags := 10, code := some k1c2 }
def k1c3 : Code := { maxStack := 2, maxLocals := 1, code := method_4_code, exceptionTable := #[], attributes := #[] }
def k1m3 : Method := { name := "x1", desc := "(I)I", sig := { parameters := [.int], returnType := some .int }, accessFlags := 10, code := some k1c3 }
def k1c4 : Code := { maxStack := 4, maxLocals := 2, code := method_5_code, exceptionTable := #[], attributes := #[] }
def k1m4 : Method := { name := "exp", desc := "(II)Ljava/lang/String;", sig := { parameters := [.int, .int], returnType := some (.object "java/lang/String") }, accessFlags := 10, code := some k1c4 }
def k1c5 : Code := { maxStack := 4, maxLocals := 2, code := method_6_code, exceptionTable := #[], attributes := #[] }
def k1m5 : Method := { name := "obs", desc := "(II)Ljava/lang/String;", sig := { parameters := [.int, .int], returnType := some (.object "java/lang/String") }, accessFlags := 10, code := some k1c5 }
def k1c6 : Code := { maxStack := 2, maxLocals := 4, code := method_7_code, exceptionTable := #[], attributes := #[] }
def k1m6 : Method := { name := "same", desc := "(II)Z", sig := { parameters := [.int, .int], returnType := some .boolean }, accessFlags := 10, code := some k1c6 }
def k1c7 : Code := { maxStack := 1, maxLocals := 1, code := method_8_code, exceptionTable := #[], attributes := #[] }
def k1m7 : Method := { name := "want", desc := "(Z)I", sig := { parameters := [.boolean], returnType := some .int }, accessFlags := 10, code := some k1c7 }
def k1c8 : Code := { maxStack := 3, maxLocals := 18, code := code, exceptionTable := #[], attributes := #[] }
def k1m8 : Method := { name := "law", desc := "(IIII)Z", sig := { parameters := [.int, .int, .int, .int], returnType := some .boolean }, accessFlags := 9, code := some k1c8 }
/-- com/example/homethread/homethread/cli/ScenarioReportExitStatusPinLaw -/
def k1 : Class := { plain "com/example/homethread/homethread/cli/ScenarioReportExitStatusPinLaw" (some 0) with
  accessFlags := 49
  interfaces := #[]
  cf := some (fileOf pool1 13 #[] #[{ accessFlags := 2, nameIndex := 5, descriptorIndex := 6, attributes := #[] }, { accessFlags := 10, nameIndex := 16, descriptorIndex := 17, attributes := #[] }, { accessFlags := 10, nameIndex := 20, descriptorIndex := 21, attributes := #[] }, { accessFlags := 10, nameIndex := 24, descriptorIndex := 21, attributes := #[] }, { accessFlags := 10, nameIndex := 29, descriptorIndex := 30, attributes := #[] }, { accessFlags := 10, nameIndex := 33, descriptorIndex := 30, attributes := #[] }, { accessFlags := 10, nameIndex := 36, descriptorIndex := 37, attributes := #[] }, { accessFlags := 10, nameIndex := 51, descriptorIndex := 52, attributes := #[] }, { accessFlags := 9, nameIndex := 56, descriptorIndex := 57, attributes := #[] }] 49 2 #[] #[])
  fields := #[]
  methods := #[k1m0, k1m1, k1m2, k1m3, k1m4, k1m5, k1m6, k1m7, k1m8]
  instanceTypes := #[]
  staticTypes := #[]
  resolved := Array.replicate 60 none
  statics := none }

def pool2 : Array CpInfo := pool [(1, .class_ 2), (0, u "java/io/Serializable"), (0, .class_ 4), (0, u "java/lang/Object")] 2

/-- java/io/Serializable -/
def k2 : Class := { plain "java/io/Serializable" (some 0) with
  accessFlags := 1537
  interfaces := #[]
  cf := some (fileOf pool2 1 #[] #[] 1537 3 #[] #[])
  fields := #[]
  methods := #[]
  instanceTypes := #[]
  staticTypes := #[]
  resolved := Array.replicate 7 none
  statics := none }

def pool3 : Array CpInfo := pool [(1, .class_ 2), (0, u "java/lang/Comparable"), (0, .class_ 4), (0, u "java/lang/Object")] 7

/-- java/lang/Comparable -/
def k3 : Class := { plain "java/lang/Comparable" (some 0) with
  accessFlags := 1537
  interfaces := #[]
  cf := some (fileOf pool3 1 #[] #[] 1537 3 #[] #[])
  fields := #[]
  methods := #[]
  instanceTypes := #[]
  staticTypes := #[]
  resolved := Array.replicate 12 none
  statics := none }

def pool4 : Array CpInfo := pool [(2, .class_ 4), (1, u "java/lang/CharSequence"), (42, .class_ 48), (0, u "java/lang/CharSequence$1CodePointIterator"), (10, .class_ 60), (0, u "java/lang/CharSequence$1CharIterator"), (5, .class_ 67), (0, u "java/lang/Object")] 63

/-- java/lang/CharSequence -/
def k4 : Class := { plain "java/lang/CharSequence" (some 0) with
  accessFlags := 1537
  interfaces := #[]
  cf := some (fileOf pool4 2 #[.nestMembers #[47, 59]] #[] 1537 66 #[] #[])
  fields := #[]
  methods := #[]
  instanceTypes := #[]
  staticTypes := #[]
  resolved := Array.replicate 131 none
  statics := none }

def pool5 : Array CpInfo := pool [(1, .class_ 2), (0, u "java/lang/constant/Constable"), (0, .class_ 4), (0, u "java/lang/Object")] 6

/-- java/lang/constant/Constable -/
def k5 : Class := { plain "java/lang/constant/Constable" (some 0) with
  accessFlags := 1537
  interfaces := #[]
  cf := some (fileOf pool5 1 #[] #[] 1537 3 #[] #[])
  fields := #[]
  methods := #[]
  instanceTypes := #[]
  staticTypes := #[]
  resolved := Array.replicate 11 none
  statics := none }

def pool6 : Array CpInfo := pool [(1, .class_ 2), (0, u "java/lang/constant/ConstantDesc"), (0, .class_ 4), (0, u "java/lang/Object")] 32

/-- java/lang/constant/ConstantDesc -/
def k6 : Class := { plain "java/lang/constant/ConstantDesc" (some 0) with
  accessFlags := 1537
  interfaces := #[]
  cf := some (fileOf pool6 1 #[] #[] 1537 3 #[] #[])
  fields := #[]
  methods := #[]
  instanceTypes := #[]
  staticTypes := #[]
  resolved := Array.replicate 37 none
  statics := none }

def pool7 : Array CpInfo := pool [(1, .methodref 2 3), (0, .class_ 4), (0, .nameAndType 5 6), (0, u "java/lang/Object"), (0, u "<init>"), (0, u "()V"), (2, .fieldref 10 11), (0, .class_ 12), (0, .nameAndType 13 14), (0, u "java/lang/String"), (0, u "value"), (0, u "[B"), (0, .fieldref 10 16), (0, .nameAndType 17 18), (0, u "coder"), (0, u "B"), (2, u "hash"), (0, u "I"), (2, u "hashIsZero"), (0, u "Z"), (0, .methodref 10 28), (0, .nameAndType 5 29), (0, u "([CIILjava/lang/Void;)V"), (8, .fieldref 10 39), (0, .nameAndType 40 26), (0, u "COMPACT_STRINGS"), (1, .class_ 44), (1, u "java/lang/StringUTF16"), (0, u "compress"), (1, .methodref 42 48), (0, .nameAndType 49 50), (0, u "coderFromArrayLen"), (0, u "([BI)B"), (56, .class_ 109), (1, u "java/lang/StringLatin1"), (67, .methodref 42 178), (0, .nameAndType 45 179), (0, u "([CII)[B"), (361, .methodref 107 542), (0, .nameAndType 543 544), (0, u "equals"), (0, u "([B[B)Z"), (28, u "(Ljava/lang/Object;)Z"), (1, .class_ 576), (0, u "java/lang/CharSequence"), (22, u "CASE_INSENSITIVE_ORDER"), (0, u "Ljava/util/Comparator;"), (409, u "([C)V"), (90, u "serialPersistentFields"), (0, u "[Ljava/io/ObjectStreamField;"), (0, .class_ 1104), (0, u "java/lang/String$CaseInsensitiveComparator"), (1, .class_ 1107), (0, u "java/io/Serializable"), (0, .class_ 1109), (0, u "java/lang/Comparable"), (0, .class_ 1111), (0, u "java/lang/constant/Constable"), (0, .class_ 1113), (0, u "java/lang/constant/ConstantDesc"), (2, u "serialVersionUID"), (0, u "J"), (3, u "REPL"), (0, u "C"), (2, u "LATIN1"), (1, u "UTF16")] 323

def k7m0 : Method := { name := "<init>", desc := "()V", sig := { parameters := [], returnType := none }, accessFlags := 1, code := none }
def k7c1 : Code := { maxStack := 5, maxLocals := 2, code := jdk_42_method_3_code, exceptionTable := #[], attributes := #[] }
def k7m1 : Method := { name := "<init>", desc := "([C)V", sig := { parameters := [(.array .char)], returnType := none }, accessFlags := 1, code := some k7c1 }
def k7c2 : Code := { maxStack := 2, maxLocals := 3, code := jdk_42_method_66_code, exceptionTable := #[], attributes := #[] }
def k7m2 : Method := { name := "equals", desc := "(Ljava/lang/Object;)Z", sig := { parameters := [(.object "java/lang/Object")], returnType := some .boolean }, accessFlags := 1, code := some k7c2 }
def k7c3 : Code := { maxStack := 4, maxLocals := 6, code := jdk_42_method_149_code, exceptionTable := #[], attributes := #[] }
def k7m3 : Method := { name := "<init>", desc := "([CIILjava/lang/Void;)V", sig := { parameters := [(.array .char), .int, .int, (.object "java/lang/Void")], returnType := none }, accessFlags := 2, code := some k7c3 }
/-- java/lang/String -/
def k7 : Class := { plain "java/lang/String" (some 0) with
  accessFlags := 49
  interfaces := #[2, 3, 4, 5, 6]
  cf := some (fileOf pool7 10 #[.nestMembers #[1103]] #[{ accessFlags := 1, nameIndex := 5, descriptorIndex := 6, attributes := #[] }, { accessFlags := 1, nameIndex := 5, descriptorIndex := 1010, attributes := #[] }, { accessFlags := 1, nameIndex := 543, descriptorIndex := 573, attributes := #[] }, { accessFlags := 2, nameIndex := 5, descriptorIndex := 29, attributes := #[] }] 49 2 #[1106, 1108, 575, 1110, 1112] #[{ accessFlags := 18, nameIndex := 13, descriptorIndex := 14, attributes := #[] }, { accessFlags := 18, nameIndex := 17, descriptorIndex := 18, attributes := #[] }, { accessFlags := 2, nameIndex := 21, descriptorIndex := 22, attributes := #[] }, { accessFlags := 2, nameIndex := 25, descriptorIndex := 26, attributes := #[] }, { accessFlags := 26, nameIndex := 1116, descriptorIndex := 1117, attributes := #[] }, { accessFlags := 24, nameIndex := 40, descriptorIndex := 26, attributes := #[] }, { accessFlags := 26, nameIndex := 1101, descriptorIndex := 1102, attributes := #[] }, { accessFlags := 26, nameIndex := 1121, descriptorIndex := 1122, attributes := #[] }, { accessFlags := 25, nameIndex := 599, descriptorIndex := 600, attributes := #[] }, { accessFlags := 24, nameIndex := 1125, descriptorIndex := 18, attributes := #[] }, { accessFlags := 24, nameIndex := 1127, descriptorIndex := 18, attributes := #[] }])
  fields := #[{ name := "value", type := (.array .byte), accessFlags := 18, slot := 0, constantValue := 0 }, { name := "coder", type := .byte, accessFlags := 18, slot := 1, constantValue := 0 }, { name := "hash", type := .int, accessFlags := 2, slot := 2, constantValue := 0 }, { name := "hashIsZero", type := .boolean, accessFlags := 2, slot := 3, constantValue := 0 }, { name := "serialVersionUID", type := .long, accessFlags := 26, slot := 0, constantValue := 0 }, { name := "COMPACT_STRINGS", type := .boolean, accessFlags := 24, slot := 1, constantValue := 0 }, { name := "serialPersistentFields", type := (.array (.object "java/io/ObjectStreamField")), accessFlags := 26, slot := 2, constantValue := 0 }, { name := "REPL", type := .char, accessFlags := 26, slot := 3, constantValue := 0 }, { name := "CASE_INSENSITIVE_ORDER", type := (.object "java/util/Comparator"), accessFlags := 25, slot := 4, constantValue := 0 }, { name := "LATIN1", type := .byte, accessFlags := 24, slot := 5, constantValue := 0 }, { name := "UTF16", type := .byte, accessFlags := 24, slot := 6, constantValue := 0 }]
  methods := #[k7m0, k7m1, k7m2, k7m3]
  instanceTypes := #[(.array .byte), .byte, .int, .boolean]
  staticTypes := #[.long, .boolean, (.array (.object "java/io/ObjectStreamField")), .char, (.object "java/util/Comparator"), .byte, .byte]
  resolved := Array.replicate 1451 none
  statics := some 0 }

def pool8 : Array CpInfo := pool [(6, .class_ 8), (1, u "java/lang/Object"), (0, u "<init>"), (0, u "()V"), (1, .class_ 14), (1, u "java/lang/StringUTF16"), (31, u "$assertionsDisabled"), (0, u "Z"), (13, u "HI_BYTE_SHIFT"), (0, u "I"), (2, u "LO_BYTE_SHIFT"), (49, .methodref 12 116), (0, .nameAndType 117 118), (0, u "compress"), (0, u "([CI[BII)I"), (3, u "([CII)[B"), (138, u "coderFromArrayLen"), (0, u "([BI)B"), (106, .class_ 371), (1, u "java/lang/StringUTF16$LinesSpliterator"), (58, u "MAX_LENGTH"), (196, .class_ 628), (0, u "java/lang/StringUTF16$CodePointsSpliterator"), (0, .class_ 630), (0, u "java/lang/StringUTF16$CharsSpliterator")] 4

def k8m0 : Method := { name := "<init>", desc := "()V", sig := { parameters := [], returnType := none }, accessFlags := 0, code := none }
def k8c1 : Code := { maxStack := 2, maxLocals := 2, code := jdk_52_method_15_code, exceptionTable := #[], attributes := #[] }
def k8m1 : Method := { name := "coderFromArrayLen", desc := "([BI)B", sig := { parameters := [(.array .byte), .int], returnType := some .byte }, accessFlags := 8, code := some k8c1 }
def k8c2 : Code := { maxStack := 5, maxLocals := 6, code := jdk_52_method_16_code, exceptionTable := #[], attributes := #[] }
def k8m2 : Method := { name := "compress", desc := "([CII)[B", sig := { parameters := [(.array .char), .int, .int], returnType := some (.array .byte) }, accessFlags := 9, code := some k8c2 }
def k8c3 : Code := { maxStack := 3, maxLocals := 7, code := jdk_52_method_21_code, exceptionTable := #[], attributes := #[] }
def k8m3 : Method := { name := "compress", desc := "([CI[BII)I", sig := { parameters := [(.array .char), .int, (.array .byte), .int, .int], returnType := some .int }, accessFlags := 9, code := some k8c3 }
/-- java/lang/StringUTF16 -/
def k8 : Class := { plain "java/lang/StringUTF16" (some 0) with
  accessFlags := 48
  interfaces := #[]
  cf := some (fileOf pool8 12 #[.nestMembers #[627, 629, 369]] #[{ accessFlags := 0, nameIndex := 9, descriptorIndex := 10, attributes := #[] }, { accessFlags := 8, nameIndex := 261, descriptorIndex := 262, attributes := #[] }, { accessFlags := 9, nameIndex := 117, descriptorIndex := 122, attributes := #[] }, { accessFlags := 9, nameIndex := 117, descriptorIndex := 118, attributes := #[] }] 48 6 #[] #[{ accessFlags := 26, nameIndex := 61, descriptorIndex := 62, attributes := #[] }, { accessFlags := 26, nameIndex := 65, descriptorIndex := 62, attributes := #[] }, { accessFlags := 24, nameIndex := 430, descriptorIndex := 62, attributes := #[] }, { accessFlags := 4120, nameIndex := 46, descriptorIndex := 47, attributes := #[] }])
  fields := #[{ name := "HI_BYTE_SHIFT", type := .int, accessFlags := 26, slot := 0, constantValue := 0 }, { name := "LO_BYTE_SHIFT", type := .int, accessFlags := 26, slot := 1, constantValue := 0 }, { name := "MAX_LENGTH", type := .int, accessFlags := 24, slot := 2, constantValue := 0 }, { name := "$assertionsDisabled", type := .boolean, accessFlags := 4120, slot := 3, constantValue := 0 }]
  methods := #[k8m0, k8m1, k8m2, k8m3]
  instanceTypes := #[]
  staticTypes := #[.int, .int, .int, .boolean]
  resolved := Array.replicate 635 none
  statics := none }

def pool9 : Array CpInfo := pool [(1, .methodref 2 3), (0, .class_ 4), (0, .nameAndType 5 6), (0, u "java/lang/Object"), (0, u "<init>"), (0, u "()V"), (0, .class_ 8), (0, u "java/util/ArrayList"), (0, .methodref 7 3), (0, .fieldref 11 12), (0, .class_ 13), (0, .nameAndType 14 15), (0, u "com/example/homethread/homethread/cli/ScenarioReport"), (0, u "lines"), (0, u "Ljava/util/List;"), (1, .class_ 19), (1, u "java/lang/String"), (8, u "expectLine"), (0, u "(Ljava/lang/String;Ljava/lang/String;)V"), (0, .interfaceMethodref 31 32), (0, .class_ 33), (0, .nameAndType 34 35), (0, u "java/util/List"), (0, u "add"), (0, u "(Ljava/lang/Object;)Z"), (0, .methodref 17 37), (0, .nameAndType 38 35), (0, u "equals"), (0, .fieldref 11 40), (0, .nameAndType 41 42), (0, u "differs"), (0, u "Z"), (35, u "exitStatus"), (0, u "()I")] 19

def k9c0 : Code := { maxStack := 3, maxLocals := 1, code := prog_42_method_1_code, exceptionTable := #[], attributes := #[] }
def k9m0 : Method := { name := "<init>", desc := "()V", sig := { parameters := [], returnType := none }, accessFlags := 0, code := some k9c0 }
def k9c1 : Code := { maxStack := 2, maxLocals := 3, code := prog_42_method_3_code, exceptionTable := #[], attributes := #[] }
def k9m1 : Method := { name := "expectLine", desc := "(Ljava/lang/String;Ljava/lang/String;)V", sig := { parameters := [(.object "java/lang/String"), (.object "java/lang/String")], returnType := none }, accessFlags := 0, code := some k9c1 }
def k9c2 : Code := { maxStack := 1, maxLocals := 1, code := prog_42_method_5_code, exceptionTable := #[], attributes := #[] }
def k9m2 : Method := { name := "exitStatus", desc := "()I", sig := { parameters := [], returnType := some .int }, accessFlags := 0, code := some k9c2 }
/-- com/example/homethread/homethread/cli/ScenarioReport -/
def k9 : Class := { plain "com/example/homethread/homethread/cli/ScenarioReport" (some 0) with
  accessFlags := 48
  interfaces := #[]
  cf := some (fileOf pool9 11 #[] #[{ accessFlags := 0, nameIndex := 5, descriptorIndex := 6, attributes := #[] }, { accessFlags := 0, nameIndex := 28, descriptorIndex := 29, attributes := #[] }, { accessFlags := 0, nameIndex := 78, descriptorIndex := 79, attributes := #[] }] 48 2 #[] #[{ accessFlags := 18, nameIndex := 14, descriptorIndex := 15, attributes := #[] }, { accessFlags := 2, nameIndex := 41, descriptorIndex := 42, attributes := #[] }])
  fields := #[{ name := "lines", type := (.object "java/util/List"), accessFlags := 18, slot := 0, constantValue := 0 }, { name := "differs", type := .boolean, accessFlags := 2, slot := 1, constantValue := 0 }]
  methods := #[k9m0, k9m1, k9m2]
  instanceTypes := #[(.object "java/util/List"), .boolean]
  staticTypes := #[]
  resolved := Array.replicate 99 none
  statics := none }

def pool10 : Array CpInfo := pool [(8, .class_ 10), (1, u "java/lang/Iterable"), (24, .class_ 36), (0, u "java/lang/Object")] 25

/-- java/lang/Iterable -/
def k10 : Class := { plain "java/lang/Iterable" (some 0) with
  accessFlags := 1537
  interfaces := #[]
  cf := some (fileOf pool10 8 #[] #[] 1537 35 #[] #[])
  fields := #[]
  methods := #[]
  instanceTypes := #[]
  staticTypes := #[]
  resolved := Array.replicate 62 none
  statics := none }

def pool11 : Array CpInfo := pool [(10, .class_ 12), (1, u "java/util/Collection"), (47, .class_ 61), (0, u "java/lang/Object"), (0, .class_ 63), (0, u "java/lang/Iterable")] 51

/-- java/util/Collection -/
def k11 : Class := { plain "java/util/Collection" (some 0) with
  accessFlags := 1537
  interfaces := #[10]
  cf := some (fileOf pool11 10 #[] #[] 1537 60 #[62] #[])
  fields := #[]
  methods := #[]
  instanceTypes := #[]
  staticTypes := #[]
  resolved := Array.replicate 115 none
  statics := none }

def pool12 : Array CpInfo := pool [(1, .methodref 2 3), (0, .class_ 4), (0, .nameAndType 5 6), (0, u "java/lang/Object"), (0, u "<init>"), (0, u "()V"), (1, .class_ 10), (1, u "java/util/AbstractCollection"), (66, .class_ 78), (0, u "java/util/Collection")] 81

def k12c0 : Code := { maxStack := 1, maxLocals := 1, code := jdk_22_method_1_code, exceptionTable := #[], attributes := #[] }
def k12m0 : Method := { name := "<init>", desc := "()V", sig := { parameters := [], returnType := none }, accessFlags := 4, code := some k12c0 }
/-- java/util/AbstractCollection -/
def k12 : Class := { plain "java/util/AbstractCollection" (some 0) with
  accessFlags := 1057
  interfaces := #[11]
  cf := some (fileOf pool12 8 #[] #[{ accessFlags := 4, nameIndex := 5, descriptorIndex := 6, attributes := #[] }] 1057 2 #[77] #[])
  fields := #[]
  methods := #[k12m0]
  instanceTypes := #[]
  staticTypes := #[]
  resolved := Array.replicate 160 none
  statics := none }

def pool13 : Array CpInfo := pool [(8, .class_ 10), (1, u "java/util/SequencedCollection"), (15, .class_ 27), (0, u "java/lang/Object"), (0, .class_ 29), (0, u "java/util/Collection")] 27

/-- java/util/SequencedCollection -/
def k13 : Class := { plain "java/util/SequencedCollection" (some 0) with
  accessFlags := 1537
  interfaces := #[11]
  cf := some (fileOf pool13 8 #[] #[] 1537 26 #[28] #[])
  fields := #[]
  methods := #[]
  instanceTypes := #[]
  staticTypes := #[]
  resolved := Array.replicate 57 none
  statics := none }

def pool14 : Array CpInfo := pool [(8, .class_ 10), (1, u "java/util/List"), (49, u "add"), (3, u "(Ljava/lang/Object;)Z"), (38, .class_ 104), (0, u "java/lang/Object"), (15, .class_ 121), (0, u "java/util/SequencedCollection")] 129

def k14m0 : Method := { name := "add", desc := "(Ljava/lang/Object;)Z", sig := { parameters := [(.object "java/lang/Object")], returnType := some .boolean }, accessFlags := 1025, code := none }
/-- java/util/List -/
def k14 : Class := { plain "java/util/List" (some 0) with
  accessFlags := 1537
  interfaces := #[13]
  cf := some (fileOf pool14 8 #[] #[{ accessFlags := 1025, nameIndex := 60, descriptorIndex := 64, attributes := #[] }] 1537 103 #[120] #[])
  fields := #[]
  methods := #[k14m0]
  instanceTypes := #[]
  staticTypes := #[]
  resolved := Array.replicate 251 none
  statics := none }

def pool15 : Array CpInfo := pool [(1, .methodref 2 3), (0, .class_ 4), (0, .nameAndType 5 6), (0, u "java/util/AbstractCollection"), (0, u "<init>"), (0, u "()V"), (0, .fieldref 8 9), (0, .class_ 10), (0, .nameAndType 11 12), (0, u "java/util/AbstractList"), (0, u "modCount"), (0, u "I"), (64, .class_ 78), (0, u "java/util/AbstractList$Itr"), (3, .class_ 83), (0, u "java/util/AbstractList$ListItr"), (9, .class_ 94), (0, u "java/util/AbstractList$RandomAccessSubList"), (3, .class_ 99), (0, u "java/util/AbstractList$SubList"), (33, .class_ 134), (0, u "java/util/List"), (73, .class_ 209), (0, u "java/util/AbstractList$SubList$1"), (0, .class_ 211), (0, u "java/util/AbstractList$RandomAccessSpliterator")] 6

def k15c0 : Code := { maxStack := 2, maxLocals := 1, code := jdk_39_method_1_code, exceptionTable := #[], attributes := #[] }
def k15m0 : Method := { name := "<init>", desc := "()V", sig := { parameters := [], returnType := none }, accessFlags := 4, code := some k15c0 }
/-- java/util/AbstractList -/
def k15 : Class := { plain "java/util/AbstractList" (some 12) with
  accessFlags := 1057
  interfaces := #[14]
  cf := some (fileOf pool15 8 #[.nestMembers #[93, 98, 208, 210, 82, 77]] #[{ accessFlags := 4, nameIndex := 5, descriptorIndex := 6, attributes := #[] }] 1057 2 #[133] #[{ accessFlags := 132, nameIndex := 11, descriptorIndex := 12, attributes := #[] }])
  fields := #[{ name := "modCount", type := .int, accessFlags := 132, slot := 0, constantValue := 0 }]
  methods := #[k15m0]
  instanceTypes := #[.int]
  staticTypes := #[]
  resolved := Array.replicate 218 none
  statics := none }

def pool16 : Array CpInfo := pool [(1, .class_ 2), (0, u "java/util/RandomAccess"), (0, .class_ 4), (0, u "java/lang/Object")] 2

/-- java/util/RandomAccess -/
def k16 : Class := { plain "java/util/RandomAccess" (some 0) with
  accessFlags := 1537
  interfaces := #[]
  cf := some (fileOf pool16 1 #[] #[] 1537 3 #[] #[])
  fields := #[]
  methods := #[]
  instanceTypes := #[]
  staticTypes := #[]
  resolved := Array.replicate 7 none
  statics := none }

def pool17 : Array CpInfo := pool [(1, .class_ 2), (0, u "java/lang/Cloneable"), (0, .class_ 4), (0, u "java/lang/Object")] 2

/-- java/lang/Cloneable -/
def k17 : Class := { plain "java/lang/Cloneable" (some 0) with
  accessFlags := 1537
  interfaces := #[]
  cf := some (fileOf pool17 1 #[] #[] 1537 3 #[] #[])
  fields := #[]
  methods := #[]
  instanceTypes := #[]
  staticTypes := #[]
  resolved := Array.replicate 7 none
  statics := none }

def pool18 : Array CpInfo := pool [(1, .methodref 2 3), (0, .class_ 4), (0, .nameAndType 5 6), (0, u "java/util/AbstractList"), (0, u "<init>"), (0, u "()V"), (0, .class_ 8), (0, u "java/lang/Object"), (0, .fieldref 10 11), (0, .class_ 12), (0, .nameAndType 13 14), (0, u "java/util/ArrayList"), (0, u "elementData"), (0, u "[Ljava/lang/Object;"), (2, u "EMPTY_ELEMENTDATA"), (21, .fieldref 10 40), (0, .nameAndType 41 14), (0, u "DEFAULTCAPACITY_EMPTY_ELEMENTDATA"), (5, u "()[Ljava/lang/Object;"), (0, .fieldref 10 49), (0, .nameAndType 50 51), (0, u "size"), (0, u "I"), (11, .fieldref 10 64), (0, .nameAndType 65 51), (0, u "modCount"), (3, .methodref 10 70), (0, .nameAndType 71 72), (0, u "grow"), (0, u "(I)[Ljava/lang/Object;"), (6, .methodref 80 81), (0, .class_ 82), (0, .nameAndType 83 84), (0, u "java/lang/Math"), (0, u "max"), (0, u "(II)I"), (11, u "(Ljava/lang/Object;)Z"), (32, .methodref 10 130), (0, .nameAndType 71 47), (0, .methodref 10 132), (0, .nameAndType 133 134), (0, u "add"), (0, u "(Ljava/lang/Object;[Ljava/lang/Object;I)V"), (13, .class_ 149), (0, u "java/util/List"), (112, .class_ 263), (0, u "java/util/ArrayList$ListItr"), (3, .class_ 268), (0, u "java/util/ArrayList$Itr"), (7, .class_ 277), (0, u "java/util/ArrayList$SubList"), (12, .class_ 291), (0, u "java/util/ArrayList$ArrayListSpliterator"), (37, .class_ 330), (0, u "java/util/RandomAccess"), (0, .class_ 332), (0, u "java/lang/Cloneable"), (0, .class_ 334), (0, u "java/io/Serializable"), (0, u "serialVersionUID"), (0, u "J"), (3, u "DEFAULT_CAPACITY"), (159, .class_ 501), (0, u "java/util/ArrayList$SubList$2"), (0, .class_ 503), (0, u "java/util/ArrayList$SubList$1")] 5

def k18c0 : Code := { maxStack := 2, maxLocals := 1, code := jdk_38_method_2_code, exceptionTable := #[], attributes := #[] }
def k18m0 : Method := { name := "<init>", desc := "()V", sig := { parameters := [], returnType := none }, accessFlags := 1, code := some k18c0 }
def k18c1 : Code := { maxStack := 4, maxLocals := 4, code := jdk_38_method_6_code, exceptionTable := #[], attributes := #[] }
def k18m1 : Method := { name := "grow", desc := "(I)[Ljava/lang/Object;", sig := { parameters := [.int], returnType := some (.array (.object "java/lang/Object")) }, accessFlags := 2, code := some k18c1 }
def k18c2 : Code := { maxStack := 3, maxLocals := 1, code := jdk_38_method_7_code, exceptionTable := #[], attributes := #[] }
def k18m2 : Method := { name := "grow", desc := "()[Ljava/lang/Object;", sig := { parameters := [], returnType := some (.array (.object "java/lang/Object")) }, accessFlags := 2, code := some k18c2 }
def k18c3 : Code := { maxStack := 3, maxLocals := 4, code := jdk_38_method_24_code, exceptionTable := #[], attributes := #[] }
def k18m3 : Method := { name := "add", desc := "(Ljava/lang/Object;[Ljava/lang/Object;I)V", sig := { parameters := [(.object "java/lang/Object"), (.array (.object "java/lang/Object")), .int], returnType := none }, accessFlags := 2, code := some k18c3 }
def k18c4 : Code := { maxStack := 4, maxLocals := 2, code := jdk_38_method_25_code, exceptionTable := #[], attributes := #[] }
def k18m4 : Method := { name := "add", desc := "(Ljava/lang/Object;)Z", sig := { parameters := [(.object "java/lang/Object")], returnType := some .boolean }, accessFlags := 1, code := some k18c4 }
/-- java/util/ArrayList -/
def k18 : Class := { plain "java/util/ArrayList" (some 15) with
  accessFlags := 33
  interfaces := #[14, 16, 17, 2]
  cf := some (fileOf pool18 10 #[.nestMembers #[290, 276, 500, 502, 262, 267]] #[{ accessFlags := 1, nameIndex := 5, descriptorIndex := 6, attributes := #[] }, { accessFlags := 2, nameIndex := 71, descriptorIndex := 72, attributes := #[] }, { accessFlags := 2, nameIndex := 71, descriptorIndex := 47, attributes := #[] }, { accessFlags := 2, nameIndex := 133, descriptorIndex := 134, attributes := #[] }, { accessFlags := 1, nameIndex := 133, descriptorIndex := 96, attributes := #[] }] 33 2 #[148, 329, 331, 333] #[{ accessFlags := 26, nameIndex := 335, descriptorIndex := 336, attributes := #[] }, { accessFlags := 26, nameIndex := 340, descriptorIndex := 51, attributes := #[] }, { accessFlags := 26, nameIndex := 17, descriptorIndex := 14, attributes := #[] }, { accessFlags := 26, nameIndex := 41, descriptorIndex := 14, attributes := #[] }, { accessFlags := 128, nameIndex := 13, descriptorIndex := 14, attributes := #[] }, { accessFlags := 2, nameIndex := 50, descriptorIndex := 51, attributes := #[] }])
  fields := #[{ name := "serialVersionUID", type := .long, accessFlags := 26, slot := 0, constantValue := 0 }, { name := "DEFAULT_CAPACITY", type := .int, accessFlags := 26, slot := 1, constantValue := 0 }, { name := "EMPTY_ELEMENTDATA", type := (.array (.object "java/lang/Object")), accessFlags := 26, slot := 2, constantValue := 0 }, { name := "DEFAULTCAPACITY_EMPTY_ELEMENTDATA", type := (.array (.object "java/lang/Object")), accessFlags := 26, slot := 3, constantValue := 0 }, { name := "elementData", type := (.array (.object "java/lang/Object")), accessFlags := 128, slot := 1, constantValue := 0 }, { name := "size", type := .int, accessFlags := 2, slot := 2, constantValue := 0 }]
  methods := #[k18m0, k18m1, k18m2, k18m3, k18m4]
  instanceTypes := #[.int, (.array (.object "java/lang/Object")), .int]
  staticTypes := #[.long, .int, (.array (.object "java/lang/Object")), (.array (.object "java/lang/Object"))]
  resolved := Array.replicate 509 none
  statics := some 1 }

def pool19 : Array CpInfo := pool [(1, .class_ 2), (0, u "java/lang/Math"), (1, .class_ 6), (1, u "java/lang/Object"), (0, u "<init>"), (0, u "()V"), (89, .class_ 100), (1, u "java/lang/Math$RandomNumberGeneratorHolder"), (71, u "negativeZeroFloatBits"), (0, u "J"), (2, u "negativeZeroDoubleBits"), (21, u "max"), (46, u "$assertionsDisabled"), (0, u "Z"), (88, u "(II)I"), (2, u "twoToTheDoubleScaleDown"), (0, u "D"), (4, u "twoToTheDoubleScaleUp"), (9, u "E"), (3, u "PI"), (2, u "TAU"), (2, u "DEGREES_TO_RADIANS"), (0, u "RADIANS_TO_DEGREES")] 94

def k19m0 : Method := { name := "<init>", desc := "()V", sig := { parameters := [], returnType := none }, accessFlags := 2, code := none }
def k19c1 : Code := { maxStack := 2, maxLocals := 2, code := jdk_29_method_65_code, exceptionTable := #[], attributes := #[] }
def k19m1 : Method := { name := "max", desc := "(II)I", sig := { parameters := [.int, .int], returnType := some .int }, accessFlags := 9, code := some k19c1 }
/-- java/lang/Math -/
def k19 : Class := { plain "java/lang/Math" (some 0) with
  accessFlags := 49
  interfaces := #[]
  cf := some (fileOf pool19 1 #[.nestMembers #[98]] #[{ accessFlags := 2, nameIndex := 7, descriptorIndex := 8, attributes := #[] }, { accessFlags := 9, nameIndex := 198, descriptorIndex := 335, attributes := #[] }] 49 4 #[] #[{ accessFlags := 25, nameIndex := 354, descriptorIndex := 339, attributes := #[] }, { accessFlags := 25, nameIndex := 358, descriptorIndex := 339, attributes := #[] }, { accessFlags := 25, nameIndex := 361, descriptorIndex := 339, attributes := #[] }, { accessFlags := 26, nameIndex := 364, descriptorIndex := 339, attributes := #[] }, { accessFlags := 26, nameIndex := 365, descriptorIndex := 339, attributes := #[] }, { accessFlags := 26, nameIndex := 172, descriptorIndex := 173, attributes := #[] }, { accessFlags := 26, nameIndex := 176, descriptorIndex := 173, attributes := #[] }, { accessFlags := 8, nameIndex := 344, descriptorIndex := 339, attributes := #[] }, { accessFlags := 8, nameIndex := 338, descriptorIndex := 339, attributes := #[] }, { accessFlags := 4120, nameIndex := 245, descriptorIndex := 246, attributes := #[] }])
  fields := #[{ name := "E", type := .double, accessFlags := 25, slot := 0, constantValue := 0 }, { name := "PI", type := .double, accessFlags := 25, slot := 1, constantValue := 0 }, { name := "TAU", type := .double, accessFlags := 25, slot := 2, constantValue := 0 }, { name := "DEGREES_TO_RADIANS", type := .double, accessFlags := 26, slot := 3, constantValue := 0 }, { name := "RADIANS_TO_DEGREES", type := .double, accessFlags := 26, slot := 4, constantValue := 0 }, { name := "negativeZeroFloatBits", type := .long, accessFlags := 26, slot := 5, constantValue := 0 }, { name := "negativeZeroDoubleBits", type := .long, accessFlags := 26, slot := 6, constantValue := 0 }, { name := "twoToTheDoubleScaleUp", type := .double, accessFlags := 8, slot := 7, constantValue := 0 }, { name := "twoToTheDoubleScaleDown", type := .double, accessFlags := 8, slot := 8, constantValue := 0 }, { name := "$assertionsDisabled", type := .boolean, accessFlags := 4120, slot := 9, constantValue := 0 }]
  methods := #[k19m0, k19m1]
  instanceTypes := #[]
  staticTypes := #[.double, .double, .double, .double, .double, .long, .long, .double, .double, .boolean]
  resolved := Array.replicate 460 none
  statics := none }

def pool20 : Array CpInfo := pool [(4, .class_ 6), (1, u "java/lang/Object"), (0, u "<init>"), (0, u "()V"), (5, .class_ 16), (1, u "java/lang/StringLatin1"), (104, u "$assertionsDisabled"), (0, u "Z"), (98, .class_ 223), (1, u "java/lang/StringLatin1$LinesSpliterator"), (57, u "equals"), (0, u "([B[B)Z"), (107, .class_ 391), (0, u "java/lang/StringLatin1$CharsSpliterator")] 3

def k20m0 : Method := { name := "<init>", desc := "()V", sig := { parameters := [], returnType := none }, accessFlags := 0, code := none }
def k20c1 : Code := { maxStack := 3, maxLocals := 3, code := jdk_43_method_13_code, exceptionTable := #[], attributes := #[] }
def k20m1 : Method := { name := "equals", desc := "([B[B)Z", sig := { parameters := [(.array .byte), (.array .byte)], returnType := some .boolean }, accessFlags := 9, code := some k20c1 }
/-- java/lang/StringLatin1 -/
def k20 : Class := { plain "java/lang/StringLatin1" (some 0) with
  accessFlags := 48
  interfaces := #[]
  cf := some (fileOf pool20 14 #[.nestMembers #[390, 221]] #[{ accessFlags := 0, nameIndex := 7, descriptorIndex := 8, attributes := #[] }, { accessFlags := 9, nameIndex := 281, descriptorIndex := 282, attributes := #[] }] 48 4 #[] #[{ accessFlags := 4120, nameIndex := 121, descriptorIndex := 122, attributes := #[] }])
  fields := #[{ name := "$assertionsDisabled", type := .boolean, accessFlags := 4120, slot := 0, constantValue := 0 }]
  methods := #[k20m0, k20m1]
  instanceTypes := #[]
  staticTypes := #[.boolean]
  resolved := Array.replicate 395 none
  statics := none }

def pool21 : Array CpInfo := pool [(2, .class_ 4), (1, u "java/lang/Object"), (0, u "<init>"), (0, u "()V"), (17, .class_ 26), (1, u "jdk/internal/util/Preconditions"), (28, .class_ 56), (0, u "jdk/internal/util/Preconditions$4"), (57, .class_ 115), (0, u "jdk/internal/util/Preconditions$1"), (7, u "SIOOBE_FORMATTER"), (0, u "Ljava/util/function/BiFunction;"), (0, .class_ 126), (0, u "jdk/internal/util/Preconditions$2"), (3, u "AIOOBE_FORMATTER"), (0, .class_ 132), (0, u "jdk/internal/util/Preconditions$3"), (3, u "IOOBE_FORMATTER")] 57

def k21m0 : Method := { name := "<init>", desc := "()V", sig := { parameters := [], returnType := none }, accessFlags := 1, code := none }
/-- jdk/internal/util/Preconditions -/
def k21 : Class := { plain "jdk/internal/util/Preconditions" (some 0) with
  accessFlags := 33
  interfaces := #[]
  cf := some (fileOf pool21 24 #[.nestMembers #[55, 131, 125, 114]] #[{ accessFlags := 1, nameIndex := 5, descriptorIndex := 6, attributes := #[] }] 33 2 #[] #[{ accessFlags := 25, nameIndex := 123, descriptorIndex := 124, attributes := #[] }, { accessFlags := 25, nameIndex := 130, descriptorIndex := 124, attributes := #[] }, { accessFlags := 25, nameIndex := 136, descriptorIndex := 124, attributes := #[] }])
  fields := #[{ name := "SIOOBE_FORMATTER", type := (.object "java/util/function/BiFunction"), accessFlags := 25, slot := 0, constantValue := 0 }, { name := "AIOOBE_FORMATTER", type := (.object "java/util/function/BiFunction"), accessFlags := 25, slot := 1, constantValue := 0 }, { name := "IOOBE_FORMATTER", type := (.object "java/util/function/BiFunction"), accessFlags := 25, slot := 2, constantValue := 0 }]
  methods := #[k21m0]
  instanceTypes := #[]
  staticTypes := #[(.object "java/util/function/BiFunction"), (.object "java/util/function/BiFunction"), (.object "java/util/function/BiFunction")]
  resolved := Array.replicate 194 none
  statics := some 2 }

def pool22 : Array CpInfo := pool [(9, u "<init>"), (6, .class_ 18), (1, u "java/lang/Object"), (0, u "()V"), (1, .class_ 23), (1, u "jdk/internal/util/ArraysSupport"), (0, u "LOG2_ARRAY_LONG_INDEX_SCALE"), (0, u "I"), (2, u "U"), (0, u "Ljdk/internal/misc/Unsafe;"), (8, u "BIG_ENDIAN"), (0, u "Z"), (8, u "LOG2_BYTE_BIT_SIZE"), (4, u "LOG2_ARRAY_INT_INDEX_SCALE"), (54, u "JLA"), (0, u "Ljdk/internal/access/JavaLangAccess;"), (11, u "LOG2_ARRAY_BOOLEAN_INDEX_SCALE"), (9, u "LOG2_ARRAY_BYTE_INDEX_SCALE"), (5, u "LOG2_ARRAY_CHAR_INDEX_SCALE"), (5, u "LOG2_ARRAY_SHORT_INDEX_SCALE"), (18, u "LOG2_ARRAY_FLOAT_INDEX_SCALE"), (24, u "LOG2_ARRAY_DOUBLE_INDEX_SCALE"), (89, u "T_BOOLEAN"), (2, u "T_CHAR"), (1, u "T_FLOAT"), (1, u "T_DOUBLE"), (1, u "T_BYTE"), (1, u "T_SHORT"), (1, u "T_INT"), (1, u "T_LONG"), (1, u "SOFT_MAX_ARRAY_LENGTH")] 83

def k22m0 : Method := { name := "<init>", desc := "()V", sig := { parameters := [], returnType := none }, accessFlags := 2, code := none }
/-- jdk/internal/util/ArraysSupport -/
def k22 : Class := { plain "jdk/internal/util/ArraysSupport" (some 0) with
  accessFlags := 33
  interfaces := #[]
  cf := some (fileOf pool22 21 #[] #[{ accessFlags := 2, nameIndex := 9, descriptorIndex := 19, attributes := #[] }] 33 16 #[] #[{ accessFlags := 24, nameIndex := 28, descriptorIndex := 29, attributes := #[] }, { accessFlags := 26, nameIndex := 38, descriptorIndex := 39, attributes := #[] }, { accessFlags := 25, nameIndex := 121, descriptorIndex := 25, attributes := #[] }, { accessFlags := 25, nameIndex := 131, descriptorIndex := 25, attributes := #[] }, { accessFlags := 25, nameIndex := 137, descriptorIndex := 25, attributes := #[] }, { accessFlags := 25, nameIndex := 143, descriptorIndex := 25, attributes := #[] }, { accessFlags := 25, nameIndex := 53, descriptorIndex := 25, attributes := #[] }, { accessFlags := 25, nameIndex := 24, descriptorIndex := 25, attributes := #[] }, { accessFlags := 25, nameIndex := 162, descriptorIndex := 25, attributes := #[] }, { accessFlags := 25, nameIndex := 187, descriptorIndex := 25, attributes := #[] }, { accessFlags := 26, nameIndex := 48, descriptorIndex := 25, attributes := #[] }, { accessFlags := 25, nameIndex := 277, descriptorIndex := 25, attributes := #[] }, { accessFlags := 25, nameIndex := 280, descriptorIndex := 25, attributes := #[] }, { accessFlags := 25, nameIndex := 282, descriptorIndex := 25, attributes := #[] }, { accessFlags := 25, nameIndex := 284, descriptorIndex := 25, attributes := #[] }, { accessFlags := 25, nameIndex := 286, descriptorIndex := 25, attributes := #[] }, { accessFlags := 25, nameIndex := 288, descriptorIndex := 25, attributes := #[] }, { accessFlags := 25, nameIndex := 290, descriptorIndex := 25, attributes := #[] }, { accessFlags := 25, nameIndex := 292, descriptorIndex := 25, attributes := #[] }, { accessFlags := 26, nameIndex := 108, descriptorIndex := 109, attributes := #[] }, { accessFlags := 25, nameIndex := 294, descriptorIndex := 25, attributes := #[] }])
  fields := #[{ name := "U", type := (.object "jdk/internal/misc/Unsafe"), accessFlags := 24, slot := 0, constantValue := 0 }, { name := "BIG_ENDIAN", type := .boolean, accessFlags := 26, slot := 1, constantValue := 0 }, { name := "LOG2_ARRAY_BOOLEAN_INDEX_SCALE", type := .int, accessFlags := 25, slot := 2, constantValue := 0 }, { name := "LOG2_ARRAY_BYTE_INDEX_SCALE", type := .int, accessFlags := 25, slot := 3, constantValue := 0 }, { name := "LOG2_ARRAY_CHAR_INDEX_SCALE", type := .int, accessFlags := 25, slot := 4, constantValue := 0 }, { name := "LOG2_ARRAY_SHORT_INDEX_SCALE", type := .int, accessFlags := 25, slot := 5, constantValue := 0 }, { name := "LOG2_ARRAY_INT_INDEX_SCALE", type := .int, accessFlags := 25, slot := 6, constantValue := 0 }, { name := "LOG2_ARRAY_LONG_INDEX_SCALE", type := .int, accessFlags := 25, slot := 7, constantValue := 0 }, { name := "LOG2_ARRAY_FLOAT_INDEX_SCALE", type := .int, accessFlags := 25, slot := 8, constantValue := 0 }, { name := "LOG2_ARRAY_DOUBLE_INDEX_SCALE", type := .int, accessFlags := 25, slot := 9, constantValue := 0 }, { name := "LOG2_BYTE_BIT_SIZE", type := .int, accessFlags := 26, slot := 10, constantValue := 0 }, { name := "T_BOOLEAN", type := .int, accessFlags := 25, slot := 11, constantValue := 0 }, { name := "T_CHAR", type := .int, accessFlags := 25, slot := 12, constantValue := 0 }, { name := "T_FLOAT", type := .int, accessFlags := 25, slot := 13, constantValue := 0 }, { name := "T_DOUBLE", type := .int, accessFlags := 25, slot := 14, constantValue := 0 }, { name := "T_BYTE", type := .int, accessFlags := 25, slot := 15, constantValue := 0 }, { name := "T_SHORT", type := .int, accessFlags := 25, slot := 16, constantValue := 0 }, { name := "T_INT", type := .int, accessFlags := 25, slot := 17, constantValue := 0 }, { name := "T_LONG", type := .int, accessFlags := 25, slot := 18, constantValue := 0 }, { name := "JLA", type := (.object "jdk/internal/access/JavaLangAccess"), accessFlags := 26, slot := 19, constantValue := 0 }, { name := "SOFT_MAX_ARRAY_LENGTH", type := .int, accessFlags := 25, slot := 20, constantValue := 0 }]
  methods := #[k22m0]
  instanceTypes := #[]
  staticTypes := #[(.object "jdk/internal/misc/Unsafe"), .boolean, .int, .int, .int, .int, .int, .int, .int, .int, .int, .int, .int, .int, .int, .int, .int, .int, .int, (.object "jdk/internal/access/JavaLangAccess"), .int]
  resolved := Array.replicate 378 none
  statics := none }

/-- the primitive byte -/
def k23 : Class := { plain "byte" none with kind := .primitive 'B', accessFlags := 0x411 }
/-- [B -/
def k24 : Class := { plain "[B" (some 0) with kind := .array 23 .byte, interfaces := #[17, 2], accessFlags := 1041 }

/-- the primitive char -/
def k25 : Class := { plain "char" none with kind := .primitive 'C', accessFlags := 0x411 }
/-- [C -/
def k26 : Class := { plain "[C" (some 0) with kind := .array 25 .char, interfaces := #[17, 2], accessFlags := 1041 }

/-- the primitive int -/
def k27 : Class := { plain "int" none with kind := .primitive 'I', accessFlags := 0x411 }
/-- [I -/
def k28 : Class := { plain "[I" (some 0) with kind := .array 27 .int, interfaces := #[17, 2], accessFlags := 1041 }

/-- [Ljava/lang/Object; -/
def k29 : Class := { plain "[Ljava/lang/Object;" (some 0) with kind := .array 0 (.object "java/lang/Object"), interfaces := #[17, 2], accessFlags := 1041 }

def heap : Heap := #[{ cls := 7, slots := #[.long 0, .int 1, .null, .int 0, .null, .int 0, .int 0], vm := .statics 7 },
  { cls := 18, slots := #[.long 0, .int 0, .ref 3, .ref 4], vm := .statics 18 },
  { cls := 21, slots := #[.null, .null, .null], vm := .statics 21 },
  { cls := 29, slots := #[], vm := .none },
  { cls := 29, slots := #[], vm := .none }]
def classes : Array Class := #[k0, k1, k2, k3, k4, k5, k6, k7, k8, k9, k10, k11, k12, k13, k14, k15, k16, k17, k18, k19, k20, k21, k22, k23, k24, k25, k26, k27, k28, k29]
def interned : List (Array UInt16 × Addr) := []
def slotsUsed : Nat := 14
def theMethod : MethodId := ⟨1, 8⟩
def args0 : Array Value := #[.int 5, .int 4, .int 5, .int 4]
def aboutOver (below : List Frame) : State where
  vm := { classes := classes, interned := interned.toArray }
  heap := heap
  slotsUsed := slotsUsed
  threads := #[{ frames := .invoking theMethod args0 :: below }]
def below0 : List Frame := [.native { method := ⟨0, 0⟩, args := #[] }]
def about1 : State := aboutOver below0
def p0 : Program := .bare "" "" ""
def e0 : Env := launch0.env 0 0 0
theorem w_frames : about1.frames = Frame.invoking theMethod args0 :: below0 := rfl
set_option maxRecDepth 65536 in
theorem w_args : argsFit about1.vm theMethod args0 = true := by decide +kernel
set_option maxRecDepth 65536 in
theorem w_heap : heapFits about1 = true := by decide +kernel
set_option maxRecDepth 65536 in
theorem w_runnable : about1.curStatus? = some .runnable := by decide +kernel
set_option maxRecDepth 65536 in
theorem w_alone : about1.alone = true := by decide +kernel
set_option maxRecDepth 65536 in
theorem w_named : about1.methodNamed? x = some theMethod := by decide +kernel
set_option maxRecDepth 65536 in
theorem w_hears : about1.hears theMethod below0 = true := by decide +kernel
set_option maxRecDepth 65536 in
theorem w_ripe : about1.ripe theMethod args0 below0 = true := by decide +kernel
theorem w_running : about1.status = .running := rfl
set_option maxRecDepth 65536 in
theorem w_room : about1.hasRoom e0.platform room_1 = true :=
  launch0.hasRoom_least _ room_1 (by decide +kernel) (by decide +kernel) (by decide +kernel) (by decide +kernel) (by decide +kernel) (by decide +kernel)
theorem allAtoms_all (ts : List Jvm.Cond) (a : Array Jvm.Value) (st : Jvm.State) : (allAtoms ts).before a st = ts.all (fun c => c.before a st) := by
  induction ts with
  | nil => rfl
  | cons c t ih =>
    show (Jvm.Cond.and c (allAtoms t)).before a st = _
    rw [Jvm.Cond.before_and, ih, List.all_cons]
def words1 : List Jvm.Cond := Jvm.Cond.code x code maxLocals ret :: tables_1
/-- a 'code' word, met by the world's own term for the bytes: nothing is compared byte by byte -/
theorem code_word {y : MethodName} {bytes : ByteArray} {mx : Nat} {rt : Option FieldType} {a : Array Value} {s : State} {m : MethodId} {meth : Method} {c : Code} (h1 : s.methodNamed? y = some m) (h2 : s.vm.method? m = some meth) (h3 : meth.code = some c) (h4 : c.code = bytes)
    (h5 : (c.maxLocals == mx && c.exceptionTable.isEmpty && decide (c.maxStack ≤ mostOperands) && decide (meth.sig.returnType = rt) && !meth.locks && decide (parseMethodDescriptor y.desc = some meth.sig)) = true) : (Jvm.Cond.code y bytes mx rt).before a s = true := by
  simp only [Bool.and_eq_true, beq_iff_eq, Bool.not_eq_true', decide_eq_true_eq] at h5
  obtain ⟨⟨⟨⟨⟨g1, g2⟩, g3⟩, g4⟩, g5⟩, g6⟩ := h5
  simp [Cond.before, Cond.holds, Cond.value, h1, h2, h3, h4, g1, g2, g3, g4, g5, g6]
def isCode : Jvm.Cond → Bool
  | .code _ _ _ _ => true
  | _ => false
theorem all_split {L : List Jvm.Cond} {P : Jvm.Cond → Bool} (h1 : L.all (fun c => isCode c || P c) = true) (h2 : ∀ c ∈ L.filter isCode, P c = true) : L.all P = true := by
  refine List.all_eq_true.mpr fun c hc => ?_
  have h := List.all_eq_true.mp h1 c hc
  rcases Bool.eq_false_or_eq_true (isCode c) with hi | hi
  · exact h2 c (List.mem_filter.mpr ⟨hc, hi⟩)
  · simpa [hi] using h
set_option maxRecDepth 65536 in
theorem w_c0 : (Jvm.Cond.code x code maxLocals ret).before args0 about1 = true := code_word (m := ⟨1, 8⟩) (meth := k1m8) (c := k1c8) (by decide +kernel) rfl rfl rfl (by decide +kernel)
set_option maxRecDepth 65536 in
theorem w_c1 : (Jvm.Cond.code ({ cls := "com/example/homethread/homethread/cli/ScenarioReportExitStatusPinLaw", name := "exp", desc := "(II)Ljava/lang/String;" } : Jvm.MethodName) method_5_code (2 : Nat) (Option.some (Jvm.ClassFile.FieldType.object "java/lang/String"))).before args0 about1 = true := code_word (m := ⟨1, 4⟩) (meth := k1m4) (c := k1c4) (by decide +kernel) rfl rfl rfl (by decide +kernel)
set_option maxRecDepth 65536 in
theorem w_c2 : (Jvm.Cond.code ({ cls := "com/example/homethread/homethread/cli/ScenarioReportExitStatusPinLaw", name := "str", desc := "(IIZ)Ljava/lang/String;" } : Jvm.MethodName) method_2_code (3 : Nat) (Option.some (Jvm.ClassFile.FieldType.object "java/lang/String"))).before args0 about1 = true := code_word (m := ⟨1, 1⟩) (meth := k1m1) (c := k1c1) (by decide +kernel) rfl rfl rfl (by decide +kernel)
set_option maxRecDepth 65536 in
theorem w_c3 : (Jvm.Cond.code ({ cls := "java/lang/String", name := "<init>", desc := "([C)V" } : Jvm.MethodName) jdk_42_method_3_code (2 : Nat) (Option.none : Option Jvm.ClassFile.FieldType)).before args0 about1 = true := code_word (m := ⟨7, 1⟩) (meth := k7m1) (c := k7c1) (by decide +kernel) rfl rfl rfl (by decide +kernel)
set_option maxRecDepth 65536 in
theorem w_c4 : (Jvm.Cond.code ({ cls := "java/lang/String", name := "<init>", desc := "([CIILjava/lang/Void;)V" } : Jvm.MethodName) jdk_42_method_149_code (6 : Nat) (Option.none : Option Jvm.ClassFile.FieldType)).before args0 about1 = true := code_word (m := ⟨7, 3⟩) (meth := k7m3) (c := k7c3) (by decide +kernel) rfl rfl rfl (by decide +kernel)
set_option maxRecDepth 65536 in
theorem w_c5 : (Jvm.Cond.code ({ cls := "java/lang/Object", name := "<init>", desc := "()V" } : Jvm.MethodName) object_method_1_code (1 : Nat) (Option.none : Option Jvm.ClassFile.FieldType)).before args0 about1 = true := code_word (m := ⟨0, 0⟩) (meth := k0m0) (c := k0c0) (by decide +kernel) rfl rfl rfl (by decide +kernel)
set_option maxRecDepth 65536 in
theorem w_c6 : (Jvm.Cond.code ({ cls := "java/lang/StringUTF16", name := "compress", desc := "([CII)[B" } : Jvm.MethodName) jdk_52_method_16_code (6 : Nat) (Option.some (Jvm.ClassFile.FieldType.array Jvm.ClassFile.FieldType.byte))).before args0 about1 = true := code_word (m := ⟨8, 2⟩) (meth := k8m2) (c := k8c2) (by decide +kernel) rfl rfl rfl (by decide +kernel)
set_option maxRecDepth 65536 in
theorem w_c7 : (Jvm.Cond.code ({ cls := "java/lang/StringUTF16", name := "compress", desc := "([CI[BII)I" } : Jvm.MethodName) jdk_52_method_21_code (7 : Nat) (Option.some Jvm.ClassFile.FieldType.int)).before args0 about1 = true := code_word (m := ⟨8, 3⟩) (meth := k8m3) (c := k8c3) (by decide +kernel) rfl rfl rfl (by decide +kernel)
set_option maxRecDepth 65536 in
theorem w_c8 : (Jvm.Cond.code ({ cls := "java/lang/StringUTF16", name := "coderFromArrayLen", desc := "([BI)B" } : Jvm.MethodName) jdk_52_method_15_code (2 : Nat) (Option.some Jvm.ClassFile.FieldType.byte)).before args0 about1 = true := code_word (m := ⟨8, 1⟩) (meth := k8m1) (c := k8c1) (by decide +kernel) rfl rfl rfl (by decide +kernel)
set_option maxRecDepth 65536 in
theorem w_c9 : (Jvm.Cond.code ({ cls := "com/example/homethread/homethread/cli/ScenarioReportExitStatusPinLaw", name := "obs", desc := "(II)Ljava/lang/String;" } : Jvm.MethodName) method_6_code (2 : Nat) (Option.some (Jvm.ClassFile.FieldType.object "java/lang/String"))).before args0 about1 = true := code_word (m := ⟨1, 5⟩) (meth := k1m5) (c := k1c5) (by decide +kernel) rfl rfl rfl (by decide +kernel)
set_option maxRecDepth 65536 in
theorem w_c10 : (Jvm.Cond.code ({ cls := "com/example/homethread/homethread/cli/ScenarioReportExitStatusPinLaw", name := "x0", desc := "(I)I" } : Jvm.MethodName) method_3_code (1 : Nat) (Option.some Jvm.ClassFile.FieldType.int)).before args0 about1 = true := code_word (m := ⟨1, 2⟩) (meth := k1m2) (c := k1c2) (by decide +kernel) rfl rfl rfl (by decide +kernel)
set_option maxRecDepth 65536 in
theorem w_c11 : (Jvm.Cond.code ({ cls := "com/example/homethread/homethread/cli/ScenarioReportExitStatusPinLaw", name := "x1", desc := "(I)I" } : Jvm.MethodName) method_4_code (1 : Nat) (Option.some Jvm.ClassFile.FieldType.int)).before args0 about1 = true := code_word (m := ⟨1, 3⟩) (meth := k1m3) (c := k1c3) (by decide +kernel) rfl rfl rfl (by decide +kernel)
set_option maxRecDepth 65536 in
theorem w_c12 : (Jvm.Cond.code ({ cls := "com/example/homethread/homethread/cli/ScenarioReportExitStatusPinLaw", name := "same", desc := "(II)Z" } : Jvm.MethodName) method_7_code (4 : Nat) (Option.some Jvm.ClassFile.FieldType.boolean)).before args0 about1 = true := code_word (m := ⟨1, 6⟩) (meth := k1m6) (c := k1c6) (by decide +kernel) rfl rfl rfl (by decide +kernel)
set_option maxRecDepth 65536 in
theorem w_c13 : (Jvm.Cond.code ({ cls := "com/example/homethread/homethread/cli/ScenarioReport", name := "<init>", desc := "()V" } : Jvm.MethodName) prog_42_method_1_code (1 : Nat) (Option.none : Option Jvm.ClassFile.FieldType)).before args0 about1 = true := code_word (m := ⟨9, 0⟩) (meth := k9m0) (c := k9c0) (by decide +kernel) rfl rfl rfl (by decide +kernel)
set_option maxRecDepth 65536 in
theorem w_c14 : (Jvm.Cond.code ({ cls := "java/util/ArrayList", name := "<init>", desc := "()V" } : Jvm.MethodName) jdk_38_method_2_code (1 : Nat) (Option.none : Option Jvm.ClassFile.FieldType)).before args0 about1 = true := code_word (m := ⟨18, 0⟩) (meth := k18m0) (c := k18c0) (by decide +kernel) rfl rfl rfl (by decide +kernel)
set_option maxRecDepth 65536 in
theorem w_c15 : (Jvm.Cond.code ({ cls := "java/util/AbstractList", name := "<init>", desc := "()V" } : Jvm.MethodName) jdk_39_method_1_code (1 : Nat) (Option.none : Option Jvm.ClassFile.FieldType)).before args0 about1 = true := code_word (m := ⟨15, 0⟩) (meth := k15m0) (c := k15c0) (by decide +kernel) rfl rfl rfl (by decide +kernel)
set_option maxRecDepth 65536 in
theorem w_c16 : (Jvm.Cond.code ({ cls := "java/util/AbstractCollection", name := "<init>", desc := "()V" } : Jvm.MethodName) jdk_22_method_1_code (1 : Nat) (Option.none : Option Jvm.ClassFile.FieldType)).before args0 about1 = true := code_word (m := ⟨12, 0⟩) (meth := k12m0) (c := k12c0) (by decide +kernel) rfl rfl rfl (by decide +kernel)
set_option maxRecDepth 65536 in
theorem w_c17 : (Jvm.Cond.code ({ cls := "com/example/homethread/homethread/cli/ScenarioReport", name := "exitStatus", desc := "()I" } : Jvm.MethodName) prog_42_method_5_code (1 : Nat) (Option.some Jvm.ClassFile.FieldType.int)).before args0 about1 = true := code_word (m := ⟨9, 2⟩) (meth := k9m2) (c := k9c2) (by decide +kernel) rfl rfl rfl (by decide +kernel)
set_option maxRecDepth 65536 in
theorem w_c18 : (Jvm.Cond.code ({ cls := "com/example/homethread/homethread/cli/ScenarioReport", name := "expectLine", desc := "(Ljava/lang/String;Ljava/lang/String;)V" } : Jvm.MethodName) prog_42_method_3_code (3 : Nat) (Option.none : Option Jvm.ClassFile.FieldType)).before args0 about1 = true := code_word (m := ⟨9, 1⟩) (meth := k9m1) (c := k9c1) (by decide +kernel) rfl rfl rfl (by decide +kernel)
set_option maxRecDepth 65536 in
theorem w_c19 : (Jvm.Cond.code ({ cls := "java/util/ArrayList", name := "add", desc := "(Ljava/lang/Object;)Z" } : Jvm.MethodName) jdk_38_method_25_code (2 : Nat) (Option.some Jvm.ClassFile.FieldType.boolean)).before args0 about1 = true := code_word (m := ⟨18, 4⟩) (meth := k18m4) (c := k18c4) (by decide +kernel) rfl rfl rfl (by decide +kernel)
set_option maxRecDepth 65536 in
theorem w_c20 : (Jvm.Cond.code ({ cls := "java/util/ArrayList", name := "add", desc := "(Ljava/lang/Object;[Ljava/lang/Object;I)V" } : Jvm.MethodName) jdk_38_method_24_code (4 : Nat) (Option.none : Option Jvm.ClassFile.FieldType)).before args0 about1 = true := code_word (m := ⟨18, 3⟩) (meth := k18m3) (c := k18c3) (by decide +kernel) rfl rfl rfl (by decide +kernel)
set_option maxRecDepth 65536 in
theorem w_c21 : (Jvm.Cond.code ({ cls := "java/util/ArrayList", name := "grow", desc := "()[Ljava/lang/Object;" } : Jvm.MethodName) jdk_38_method_7_code (1 : Nat) (Option.some (Jvm.ClassFile.FieldType.array (Jvm.ClassFile.FieldType.object "java/lang/Object")))).before args0 about1 = true := code_word (m := ⟨18, 2⟩) (meth := k18m2) (c := k18c2) (by decide +kernel) rfl rfl rfl (by decide +kernel)
set_option maxRecDepth 65536 in
theorem w_c22 : (Jvm.Cond.code ({ cls := "java/util/ArrayList", name := "grow", desc := "(I)[Ljava/lang/Object;" } : Jvm.MethodName) jdk_38_method_6_code (4 : Nat) (Option.some (Jvm.ClassFile.FieldType.array (Jvm.ClassFile.FieldType.object "java/lang/Object")))).before args0 about1 = true := code_word (m := ⟨18, 1⟩) (meth := k18m1) (c := k18c1) (by decide +kernel) rfl rfl rfl (by decide +kernel)
set_option maxRecDepth 65536 in
theorem w_c23 : (Jvm.Cond.code ({ cls := "java/lang/Math", name := "max", desc := "(II)I" } : Jvm.MethodName) jdk_29_method_65_code (2 : Nat) (Option.some Jvm.ClassFile.FieldType.int)).before args0 about1 = true := code_word (m := ⟨19, 1⟩) (meth := k19m1) (c := k19c1) (by decide +kernel) rfl rfl rfl (by decide +kernel)
set_option maxRecDepth 65536 in
theorem w_c24 : (Jvm.Cond.code ({ cls := "java/lang/String", name := "equals", desc := "(Ljava/lang/Object;)Z" } : Jvm.MethodName) jdk_42_method_66_code (3 : Nat) (Option.some Jvm.ClassFile.FieldType.boolean)).before args0 about1 = true := code_word (m := ⟨7, 2⟩) (meth := k7m2) (c := k7c2) (by decide +kernel) rfl rfl rfl (by decide +kernel)
set_option maxRecDepth 65536 in
theorem w_c25 : (Jvm.Cond.code ({ cls := "java/lang/StringLatin1", name := "equals", desc := "([B[B)Z" } : Jvm.MethodName) jdk_43_method_13_code (3 : Nat) (Option.some Jvm.ClassFile.FieldType.boolean)).before args0 about1 = true := code_word (m := ⟨20, 1⟩) (meth := k20m1) (c := k20c1) (by decide +kernel) rfl rfl rfl (by decide +kernel)
set_option maxRecDepth 65536 in
theorem w_c26 : (Jvm.Cond.code ({ cls := "com/example/homethread/homethread/cli/ScenarioReportExitStatusPinLaw", name := "want", desc := "(Z)I" } : Jvm.MethodName) method_8_code (1 : Nat) (Option.some Jvm.ClassFile.FieldType.int)).before args0 about1 = true := code_word (m := ⟨1, 7⟩) (meth := k1m7) (c := k1c7) (by decide +kernel) rfl rfl rfl (by decide +kernel)
def codes1 : List Jvm.Cond := [Jvm.Cond.code x code maxLocals ret, Jvm.Cond.code ({ cls := "com/example/homethread/homethread/cli/ScenarioReportExitStatusPinLaw", name := "exp", desc := "(II)Ljava/lang/String;" } : Jvm.MethodName) method_5_code (2 : Nat) (Option.some (Jvm.ClassFile.FieldType.object "java/lang/String")), Jvm.Cond.code ({ cls := "com/example/homethread/homethread/cli/ScenarioReportExitStatusPinLaw", name := "str", desc := "(IIZ)Ljava/lang/String;" } : Jvm.MethodName) method_2_code (3 : Nat) (Option.some (Jvm.ClassFile.FieldType.object "java/lang/String")), Jvm.Cond.code ({ cls := "java/lang/String", name := "<init>", desc := "([C)V" } : Jvm.MethodName) jdk_42_method_3_code (2 : Nat) (Option.none : Option Jvm.ClassFile.FieldType), Jvm.Cond.code ({ cls := "java/lang/String", name := "<init>", desc := "([CIILjava/lang/Void;)V" } : Jvm.MethodName) jdk_42_method_149_code (6 : Nat) (Option.none : Option Jvm.ClassFile.FieldType), Jvm.Cond.code ({ cls := "java/lang/Object", name := "<init>", desc := "()V" } : Jvm.MethodName) object_method_1_code (1 : Nat) (Option.none : Option Jvm.ClassFile.FieldType), Jvm.Cond.code ({ cls := "java/lang/StringUTF16", name := "compress", desc := "([CII)[B" } : Jvm.MethodName) jdk_52_method_16_code (6 : Nat) (Option.some (Jvm.ClassFile.FieldType.array Jvm.ClassFile.FieldType.byte)), Jvm.Cond.code ({ cls := "java/lang/StringUTF16", name := "compress", desc := "([CI[BII)I" } : Jvm.MethodName) jdk_52_method_21_code (7 : Nat) (Option.some Jvm.ClassFile.FieldType.int), Jvm.Cond.code ({ cls := "java/lang/StringUTF16", name := "coderFromArrayLen", desc := "([BI)B" } : Jvm.MethodName) jdk_52_method_15_code (2 : Nat) (Option.some Jvm.ClassFile.FieldType.byte), Jvm.Cond.code ({ cls := "com/example/homethread/homethread/cli/ScenarioReportExitStatusPinLaw", name := "obs", desc := "(II)Ljava/lang/String;" } : Jvm.MethodName) method_6_code (2 : Nat) (Option.some (Jvm.ClassFile.FieldType.object "java/lang/String")), Jvm.Cond.code ({ cls := "com/example/homethread/homethread/cli/ScenarioReportExitStatusPinLaw", name := "x0", desc := "(I)I" } : Jvm.MethodName) method_3_code (1 : Nat) (Option.some Jvm.ClassFile.FieldType.int), Jvm.Cond.code ({ cls := "com/example/homethread/homethread/cli/ScenarioReportExitStatusPinLaw", name := "x1", desc := "(I)I" } : Jvm.MethodName) method_4_code (1 : Nat) (Option.some Jvm.ClassFile.FieldType.int), Jvm.Cond.code ({ cls := "com/example/homethread/homethread/cli/ScenarioReportExitStatusPinLaw", name := "same", desc := "(II)Z" } : Jvm.MethodName) method_7_code (4 : Nat) (Option.some Jvm.ClassFile.FieldType.boolean), Jvm.Cond.code ({ cls := "com/example/homethread/homethread/cli/ScenarioReport", name := "<init>", desc := "()V" } : Jvm.MethodName) prog_42_method_1_code (1 : Nat) (Option.none : Option Jvm.ClassFile.FieldType), Jvm.Cond.code ({ cls := "java/util/ArrayList", name := "<init>", desc := "()V" } : Jvm.MethodName) jdk_38_method_2_code (1 : Nat) (Option.none : Option Jvm.ClassFile.FieldType), Jvm.Cond.code ({ cls := "java/util/AbstractList", name := "<init>", desc := "()V" } : Jvm.MethodName) jdk_39_method_1_code (1 : Nat) (Option.none : Option Jvm.ClassFile.FieldType), Jvm.Cond.code ({ cls := "java/util/AbstractCollection", name := "<init>", desc := "()V" } : Jvm.MethodName) jdk_22_method_1_code (1 : Nat) (Option.none : Option Jvm.ClassFile.FieldType), Jvm.Cond.code ({ cls := "com/example/homethread/homethread/cli/ScenarioReport", name := "exitStatus", desc := "()I" } : Jvm.MethodName) prog_42_method_5_code (1 : Nat) (Option.some Jvm.ClassFile.FieldType.int), Jvm.Cond.code ({ cls := "com/example/homethread/homethread/cli/ScenarioReport", name := "expectLine", desc := "(Ljava/lang/String;Ljava/lang/String;)V" } : Jvm.MethodName) prog_42_method_3_code (3 : Nat) (Option.none : Option Jvm.ClassFile.FieldType), Jvm.Cond.code ({ cls := "java/util/ArrayList", name := "add", desc := "(Ljava/lang/Object;)Z" } : Jvm.MethodName) jdk_38_method_25_code (2 : Nat) (Option.some Jvm.ClassFile.FieldType.boolean), Jvm.Cond.code ({ cls := "java/util/ArrayList", name := "add", desc := "(Ljava/lang/Object;[Ljava/lang/Object;I)V" } : Jvm.MethodName) jdk_38_method_24_code (4 : Nat) (Option.none : Option Jvm.ClassFile.FieldType), Jvm.Cond.code ({ cls := "java/util/ArrayList", name := "grow", desc := "()[Ljava/lang/Object;" } : Jvm.MethodName) jdk_38_method_7_code (1 : Nat) (Option.some (Jvm.ClassFile.FieldType.array (Jvm.ClassFile.FieldType.object "java/lang/Object"))), Jvm.Cond.code ({ cls := "java/util/ArrayList", name := "grow", desc := "(I)[Ljava/lang/Object;" } : Jvm.MethodName) jdk_38_method_6_code (4 : Nat) (Option.some (Jvm.ClassFile.FieldType.array (Jvm.ClassFile.FieldType.object "java/lang/Object"))), Jvm.Cond.code ({ cls := "java/lang/Math", name := "max", desc := "(II)I" } : Jvm.MethodName) jdk_29_method_65_code (2 : Nat) (Option.some Jvm.ClassFile.FieldType.int), Jvm.Cond.code ({ cls := "java/lang/String", name := "equals", desc := "(Ljava/lang/Object;)Z" } : Jvm.MethodName) jdk_42_method_66_code (3 : Nat) (Option.some Jvm.ClassFile.FieldType.boolean), Jvm.Cond.code ({ cls := "java/lang/StringLatin1", name := "equals", desc := "([B[B)Z" } : Jvm.MethodName) jdk_43_method_13_code (3 : Nat) (Option.some Jvm.ClassFile.FieldType.boolean), Jvm.Cond.code ({ cls := "com/example/homethread/homethread/cli/ScenarioReportExitStatusPinLaw", name := "want", desc := "(Z)I" } : Jvm.MethodName) method_8_code (1 : Nat) (Option.some Jvm.ClassFile.FieldType.int)]
set_option maxRecDepth 65536 in
theorem codes_eq : words1.filter isCode = codes1 := rfl
theorem w_codes : ∀ c ∈ words1.filter isCode, c.before args0 about1 = true := by
  rw [codes_eq]
  intro c hc
  simp only [codes1, List.mem_cons, List.not_mem_nil, or_false] at hc
  rcases hc with rfl | rfl | rfl | rfl | rfl | rfl | rfl | rfl | rfl | rfl | rfl | rfl | rfl | rfl | rfl | rfl | rfl | rfl | rfl | rfl | rfl | rfl | rfl | rfl | rfl | rfl | rfl
  · exact w_c0
  · exact w_c1
  · exact w_c2
  · exact w_c3
  · exact w_c4
  · exact w_c5
  · exact w_c6
  · exact w_c7
  · exact w_c8
  · exact w_c9
  · exact w_c10
  · exact w_c11
  · exact w_c12
  · exact w_c13
  · exact w_c14
  · exact w_c15
  · exact w_c16
  · exact w_c17
  · exact w_c18
  · exact w_c19
  · exact w_c20
  · exact w_c21
  · exact w_c22
  · exact w_c23
  · exact w_c24
  · exact w_c25
  · exact w_c26
set_option maxRecDepth 65536 in
theorem w_t1 : (words1.take 24).all (fun c => isCode c || c.before args0 about1) = true := by decide +kernel
set_option maxRecDepth 65536 in
theorem w_t2 : ((words1.drop 24).take 24).all (fun c => isCode c || c.before args0 about1) = true := by decide +kernel
set_option maxRecDepth 65536 in
theorem w_t3 : (((words1.drop 24).drop 24).take 24).all (fun c => isCode c || c.before args0 about1) = true := by decide +kernel
set_option maxRecDepth 65536 in
theorem w_t4 : ((((words1.drop 24).drop 24).drop 24).take 24).all (fun c => isCode c || c.before args0 about1) = true := by decide +kernel
set_option maxRecDepth 65536 in
theorem w_t5 : (((((words1.drop 24).drop 24).drop 24).drop 24).take 24).all (fun c => isCode c || c.before args0 about1) = true := by decide +kernel
set_option maxRecDepth 65536 in
theorem w_t6 : (((((words1.drop 24).drop 24).drop 24).drop 24).drop 24).all (fun c => isCode c || c.before args0 about1) = true := by decide +kernel
theorem w_tables : (allAtoms (Jvm.Cond.code x code maxLocals ret :: tables_1)).before args0 about1 = true := by
  rw [allAtoms_all]
  show words1.all (fun c => c.before args0 about1) = true
  refine all_split ?_ w_codes
  rw [← List.take_append_drop 24 words1, List.all_append, w_t1, ← List.take_append_drop 24 (words1.drop 24), List.all_append, w_t2, ← List.take_append_drop 24 ((words1.drop 24).drop 24), List.all_append, w_t3, ← List.take_append_drop 24 (((words1.drop 24).drop 24).drop 24), List.all_append, w_t4, ← List.take_append_drop 24 ((((words1.drop 24).drop 24).drop 24).drop 24), List.all_append, w_t5, w_t6]
  rfl
set_option maxRecDepth 65536 in
theorem w_rest : rest_1_c.before args0 about1 = true := by decide +kernel
set_option maxRecDepth 65536 in
theorem w_case : (Jvm.Cond.and given_1 narrow_1).before args0 about1 = true := by decide +kernel
theorem w_applies : (headSpec (Jvm.Cond.code x code maxLocals ret :: tables_1) room_1).applies x e0.platform about1 = true :=
  (Spec.applies_iff w_frames).mpr ⟨w_running, w_runnable, w_alone, w_named, w_hears, w_ripe, w_room, w_tables⟩
theorem atStart : AtStart classFile x code maxLocals ret World_1 tables_1 room_1 Calls_1 rest_1 Pre_1 launch0 p0 e0 about1 theMethod args0 below0 :=
  ⟨lists_1, trivial, launch0.admits_env _ _ _, launch0.least_env, fairChoices_fair.cas, fairChoices_fair.clock, w_frames, w_args, w_heap, w_applies, trivial, w_rest, w_case⟩
end start1
theorem witness_1 : WitnessClaimed_1 := ⟨start1.p0, start1.e0, start1.about1, start1.theMethod, start1.args0, start1.below0, start1.atStart⟩
end Jvm.Pilot.@@N@@
