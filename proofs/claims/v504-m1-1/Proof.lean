import JvmDerived
import JvmDerived.Pilot.@@N@@Statement
import JvmDerived.Pilot.@@N@@Code
set_option linter.unusedVariables false
set_option linter.unusedSimpArgs false
@@BLOCK:NumsL.lean.txt@@
namespace Jvm.RoadKit
open Sem ClassFile Op Lib Jvm.Stand Jvm.Free Jvm.LawKit
section New
variable {p : Program} {l : Launch} {e : Env} {R : Room} {s : State} {m : MethodId} {args : Array Value} {below : List Frame} {meth : Method} {c : Code} {T : State} {locs : List Loc} {cells slots : Nat}
theorem retI (X : Stand p l e R s m args below meth c T locs cells slots) (hx : p.tables.exec = Jvm.exec) {pc : Nat} {Ls : Array Slot} {z : Int32} {rest : List Value} (hret : meth.sig.returnType = some .int) (hd : decode c.code pc = .ok (.ireturn, 1)) {fs : List Frame}
    (hl : ∀ (f : JFrame) (acts : List Action), f.method = m → f.locked = none → f.entered = [] → (doReturn e (T.setTop f) acts (some (.int z))).1 = T.setFrames fs) : Steps p.tables e below (T.setTop (mkF m pc Ls (.int z :: rest))) (T.setFrames fs) := by
  have hm' : T.vm.method? m = some meth := X.method'
  have hn : narrow .int (.int z) = .int z := rfl
  show Steps p.tables e below (T.setTop { method := m, pc := pc, locals := Ls, stack := _ :: rest, locked := none }) _
  jvm_step X.here [X.here.top, hx, hd, hm', hret, hn]
  first | (intro acts; rw [hl _ acts rfl rfl rfl]) | rw [hl _ _ rfl rfl rfl]
  exact Steps.refl _
end New
end Jvm.RoadKit
namespace Jvm.Pilot.@@N@@
open Jvm Jvm.ClassFile Sem Op Lib Jvm.Free Jvm.Stand Jvm.LawKit Jvm.RoadKit Bundle Jvm.Pilot.@@N@@.Jvm.D
theorem own_fld_ne {Z : State} {h : Heap} {a b : Addr} {C n d : String} {v w : Value} (F : Fld Z h a C n d v) (G : Fld Z h b C n d w) (q : v ≠ w) : a ≠ b := fun e => by
  subst e
  obtain ⟨c1, cf1, k1, i1, f1, a1, a2, -, -, -, -, a7⟩ := F
  obtain ⟨c2, cf2, k2, i2, f2, b1, b2, -, -, -, -, b7⟩ := G
  cases a1.symm.trans b1
  cases a2.symm.trans b2
  exact q (Option.some.inj (a7.symm.trans b7))
theorem own_fldI {args : Array Value} {s : State} {t : Term} {a : Addr} {C n d : String} {k : Int32} (ht : t.eval args s none [] s = some (.ref a)) (h : (Jvm.Cond.eq (Term.field t C n d) (Term.int k)).value args s none s [] = some true) : Fld s s.heap a C n d (.int k) := by
  apply Fld.start
  have e1 : (Term.field t C n d).eval args s none [] s = s.fieldOf? a C n d := fld_at ht
  have e2 : (Term.int k).eval args s none [] s = some (.int k) := Term.int_eval k
  simp only [Cond.value, e1, e2] at h
  split at h <;> simp_all
theorem own_nm0 {a : Addr} : a ∉ ([] : List Addr) := List.not_mem_nil
theorem own_nm1 {a x : Addr} (h : a ≠ x) : a ∉ [x] := fun q => h (List.mem_singleton.mp q)
theorem own_nm2 {a x y : Addr} (h : a ≠ x) (h2 : a ≠ y) : a ∉ [x, y] := fun q => by
  rcases List.mem_cons.mp q with q | q
  · exact h q
  · exact h2 (List.mem_singleton.mp q)
theorem own_nm3 {a x y z : Addr} (h : a ≠ x) (h2 : a ≠ y) (h3 : a ≠ z) : a ∉ [x, y, z] := fun q => by
  rcases List.mem_cons.mp q with q | q
  · exact h q
  · exact own_nm2 h2 h3 q
theorem own_all0 {P : Addr → Prop} : ∀ x ∈ ([] : List Addr), P x := fun x q => (List.not_mem_nil q).elim
theorem own_all1 {P : Addr → Prop} {a : Addr} (h : P a) : ∀ x ∈ [a], P x := fun x q => by rw [List.mem_singleton.mp q]; exact h
theorem own_all2 {P : Addr → Prop} {a b : Addr} (h : P a) (h2 : P b) : ∀ x ∈ [a, b], P x := fun x q => by
  rcases List.mem_cons.mp q with q | q
  · rw [q]; exact h
  · rw [List.mem_singleton.mp q]; exact h2
theorem own_all3 {P : Addr → Prop} {a b c : Addr} (h : P a) (h2 : P b) (h3 : P c) : ∀ x ∈ [a, b, c], P x := fun x q => by
  rcases List.mem_cons.mp q with q | q
  · rw [q]; exact h
  · exact own_all2 h2 h3 x q
def own_hexUp (d : Int32) : Int32 := if d < (10 : Int32) then ((48 : Int32) + d) else ((65 : Int32) + (d - (10 : Int32)))
def own_hexLow (d : Int32) : Int32 := if d < (10 : Int32) then ((48 : Int32) + d) else ((97 : Int32) + (d - (10 : Int32)))
def own_pick (q d a : Int32) : Int32 := if q = (0 : Int32) then own_hexUp d else if q = (1 : Int32) then own_hexLow d else a
def own_in (d : Int32) : Prop := ¬ d < (0 : Int32) ∧ d < (16 : Int32)
theorem own_in_cases {d : Int32} (h : own_in d) : d = (0 : Int32) ∨ d = (1 : Int32) ∨ d = (2 : Int32) ∨ d = (3 : Int32) ∨ d = (4 : Int32) ∨ d = (5 : Int32) ∨ d = (6 : Int32) ∨ d = (7 : Int32) ∨ d = (8 : Int32) ∨ d = (9 : Int32) ∨ d = (10 : Int32) ∨ d = (11 : Int32) ∨ d = (12 : Int32) ∨ d = (13 : Int32) ∨ d = (14 : Int32) ∨ d = (15 : Int32) := by
  obtain ⟨h1, h2⟩ := h
  rw [Int32.lt_iff_toInt_lt] at h1 h2
  have a : ((0 : Int32)).toInt = 0 := by decide
  have b : ((16 : Int32)).toInt = 16 := by decide
  rw [a] at h1
  rw [b] at h2
  have h : d.toInt = 0 ∨ d.toInt = 1 ∨ d.toInt = 2 ∨ d.toInt = 3 ∨ d.toInt = 4 ∨ d.toInt = 5 ∨ d.toInt = 6 ∨ d.toInt = 7 ∨ d.toInt = 8 ∨ d.toInt = 9 ∨ d.toInt = 10 ∨ d.toInt = 11 ∨ d.toInt = 12 ∨ d.toInt = 13 ∨ d.toInt = 14 ∨ d.toInt = 15 := by omega
  rcases h with h | h | h | h | h | h | h | h | h | h | h | h | h | h | h | h
  · exact Or.inl (Int32.toInt_inj.mp h)
  · exact Or.inr (Or.inl (Int32.toInt_inj.mp h))
  · exact Or.inr (Or.inr (Or.inl (Int32.toInt_inj.mp h)))
  · exact Or.inr (Or.inr (Or.inr (Or.inl (Int32.toInt_inj.mp h))))
  · exact Or.inr (Or.inr (Or.inr (Or.inr (Or.inl (Int32.toInt_inj.mp h)))))
  · exact Or.inr (Or.inr (Or.inr (Or.inr (Or.inr (Or.inl (Int32.toInt_inj.mp h))))))
  · exact Or.inr (Or.inr (Or.inr (Or.inr (Or.inr (Or.inr (Or.inl (Int32.toInt_inj.mp h)))))))
  · exact Or.inr (Or.inr (Or.inr (Or.inr (Or.inr (Or.inr (Or.inr (Or.inl (Int32.toInt_inj.mp h))))))))
  · exact Or.inr (Or.inr (Or.inr (Or.inr (Or.inr (Or.inr (Or.inr (Or.inr (Or.inl (Int32.toInt_inj.mp h)))))))))
  · exact Or.inr (Or.inr (Or.inr (Or.inr (Or.inr (Or.inr (Or.inr (Or.inr (Or.inr (Or.inl (Int32.toInt_inj.mp h))))))))))
  · exact Or.inr (Or.inr (Or.inr (Or.inr (Or.inr (Or.inr (Or.inr (Or.inr (Or.inr (Or.inr (Or.inl (Int32.toInt_inj.mp h)))))))))))
  · exact Or.inr (Or.inr (Or.inr (Or.inr (Or.inr (Or.inr (Or.inr (Or.inr (Or.inr (Or.inr (Or.inr (Or.inl (Int32.toInt_inj.mp h))))))))))))
  · exact Or.inr (Or.inr (Or.inr (Or.inr (Or.inr (Or.inr (Or.inr (Or.inr (Or.inr (Or.inr (Or.inr (Or.inr (Or.inl (Int32.toInt_inj.mp h)))))))))))))
  · exact Or.inr (Or.inr (Or.inr (Or.inr (Or.inr (Or.inr (Or.inr (Or.inr (Or.inr (Or.inr (Or.inr (Or.inr (Or.inr (Or.inl (Int32.toInt_inj.mp h))))))))))))))
  · exact Or.inr (Or.inr (Or.inr (Or.inr (Or.inr (Or.inr (Or.inr (Or.inr (Or.inr (Or.inr (Or.inr (Or.inr (Or.inr (Or.inr (Or.inl (Int32.toInt_inj.mp h)))))))))))))))
  · exact Or.inr (Or.inr (Or.inr (Or.inr (Or.inr (Or.inr (Or.inr (Or.inr (Or.inr (Or.inr (Or.inr (Or.inr (Or.inr (Or.inr (Or.inr (Int32.toInt_inj.mp h)))))))))))))))
theorem own_hexat {d : Int32} (h : own_in d) : ([(.int (48 : Int32)), (.int (49 : Int32)), (.int (50 : Int32)), (.int (51 : Int32)), (.int (52 : Int32)), (.int (53 : Int32)), (.int (54 : Int32)), (.int (55 : Int32)), (.int (56 : Int32)), (.int (57 : Int32)), (.int (65 : Int32)), (.int (66 : Int32)), (.int (67 : Int32)), (.int (68 : Int32)), (.int (69 : Int32)), (.int (70 : Int32))] : List Value).getD d.toNatClampNeg (.int (0 : Int32)) = .int (own_hexUp d) := by
  rcases own_in_cases h with rfl | rfl | rfl | rfl | rfl | rfl | rfl | rfl | rfl | rfl | rfl | rfl | rfl | rfl | rfl | rfl <;> decide
theorem own_hexsize {d : Int32} (h : own_in d) {c : Cell} (S : c.slots.size = (16 : Int32).toNatClampNeg) : ¬ (d < 0 ∨ c.slots.size ≤ d.toNatClampNeg) := inb_of S h
theorem own_mask15 (x : Int32) : own_in (x &&& (15 : Int32)) := by
  have e : (x &&& 15).toInt = x.toInt % 2 ^ 4 := Jvm.Kit.i32_mask x 15 (k := 4) (by decide) (by decide)
  have a : ((0 : Int32)).toInt = 0 := by decide
  have b : ((16 : Int32)).toInt = 16 := by decide
  refine ⟨?_, ?_⟩
  · rw [Int32.lt_iff_toInt_lt, a]; omega
  · rw [Int32.lt_iff_toInt_lt, b]; omega
theorem own_bits (x : Int32) : ((((x &&& (2147483647 : Int32)) - ((x &&& (2147483647 : Int32)) / (256 : Int32)) * (256 : Int32)) >>> ((4 : Int32) &&& 31)) = (((x &&& (2147483647 : Int32)) >>> ((4 : Int32) &&& 31)) &&& (15 : Int32))) ∧
    ((((x &&& (2147483647 : Int32)) - ((x &&& (2147483647 : Int32)) / (256 : Int32)) * (256 : Int32)) &&& (15 : Int32)) = ((x &&& (2147483647 : Int32)) &&& (15 : Int32))) := by
  have e : (x &&& (2147483647 : Int32)).toInt = x.toInt % 2 ^ 31 := Jvm.Kit.i32_mask x _ (k := 31) (by decide) (by decide)
  generalize (x &&& (2147483647 : Int32)) = y at *
  have c : ((256 : Int32)).toInt = 256 := by decide
  have d : (y / (256 : Int32)).toInt = y.toInt / 256 := by rw [Jvm.Kit.i32_div (by rw [c]; omega), c, Int.tdiv_eq_ediv_of_nonneg (by omega)]
  have m : ((y / (256 : Int32)) * (256 : Int32)).toInt = y.toInt / 256 * 256 := by rw [Jvm.Kit.i32_mul (by rw [c, d]; omega) (by rw [c, d]; omega), c, d]
  have r : (y - (y / (256 : Int32)) * (256 : Int32)).toInt = y.toInt - y.toInt / 256 * 256 := by rw [Jvm.Kit.i32_sub (by rw [m]; omega) (by rw [m]; omega), m]
  refine ⟨Int32.toInt_inj.mp ?_, Int32.toInt_inj.mp ?_⟩
  · rw [Jvm.Kit.i32_shr _ _ (k := 4) (by decide), r, Jvm.Kit.i32_mask _ 15 (k := 4) (by decide) (by decide), Jvm.Kit.i32_shr _ _ (k := 4) (by decide)]
    omega
  · rw [Jvm.Kit.i32_mask _ 15 (k := 4) (by decide) (by decide), r, Jvm.Kit.i32_mask _ 15 (k := 4) (by decide) (by decide)]
    omega
theorem own_or_e {args : Array Value} {s : State} {idx : List Nat} {G X : Jvm.Cond} (h : (Jvm.Cond.or G X).value args s none s idx = some true) (hG : G.value args s none s idx = some false) : X.value args s none s idx = some true := by
  simp only [Cond.value, hG] at h
  first | exact h | (cases hx : X.value args s none s idx with | none => simp [hx] at h | some b => cases b <;> simp_all)
theorem own_hexcase {args : Array Value} {s : State} {t : Term} {a : Addr} {cl : Cell} {k : Int64} {i : Nat} (hi : i < 2 ^ 31) (ev : t.eval args s none [i] s = some (.ref a)) (hc : s.heap[a]? = some cl)
    (h : (Jvm.Cond.eq (.op1 .i2l (.elem t (.index 0))) (.op2 .ladd (.op1 .i2l (.index 0)) (.long k))).value args s none s [i] = some true) : ∃ x : Int32, cl.slots[i]? = some (.int x) ∧ x.toInt64 = i.toInt32.toInt64 + k := by
  have e1 : (Term.index 0).eval args s none [i] s = some (.int i.toInt32) := rfl
  have e2 : (Term.op2 .ladd (.op1 .i2l (.index 0)) (.long k)).eval args s none [i] s = some (.long (i.toInt32.toInt64 + k)) := rfl
  obtain ⟨x, y, h1, h2, h3, h4⟩ := cmp_v (Or.inl h)
  obtain ⟨w, g1, g2⟩ := op1_v h1
  obtain ⟨-, g4⟩ := elem_in g1 ev e1 hc
  have hn : (i.toInt32).toNatClampNeg = i := by
    have := len_toInt hi
    rw [Int32.toNatClampNeg, this]; omega
  rw [hn] at g4
  cases w with
  | int z =>
    refine ⟨z, g4, ?_⟩
    have h5 : (Term.op1 .i2l (.elem t (.index 0))).eval args s none [i] s = some (.long z.toInt64) := by rw [op1_f g1]; rfl
    exact gotT (eq_L h5 e2) h
  | _ => simp [Unary.apply] at g2
theorem own_hexlit {x k : Int32} {y : Int64} (h : x.toInt64 = y) (q : y.toInt32 = k) : x = k := by
  rw [← q, ← h]; exact (Int32.toInt32_toInt64 x).symm
theorem own_hexstart {args : Array Value} {s : State} {C n d : String} {a : Addr} (hf : Fit s) (ev : (Term.static C n d).eval args s none [] s = some (.ref a)) (h1 : (Jvm.Cond.arrayOf (Term.static C n d) .char).value args s none s [] = some true)
    (h2 : (Jvm.Cond.eq (Term.length (Term.static C n d)) (Term.int (16 : Int32))).value args s none s [] = some true)
    (h3 : (Jvm.Cond.all (Term.static C n d) (Jvm.Cond.or (Jvm.Cond.le (Term.int (10 : Int32)) (Term.index 0)) (Jvm.Cond.eq (.op1 .i2l (.elem (Term.static C n d) (.index 0))) (.op2 .ladd (.op1 .i2l (.index 0)) (.long (48 : Int64)))))).value args s none s [] = some true)
    (h4 : (Jvm.Cond.all (Term.static C n d) (Jvm.Cond.or (Jvm.Cond.lt (Term.index 0) (Term.int (10 : Int32))) (Jvm.Cond.eq (.op1 .i2l (.elem (Term.static C n d) (.index 0))) (.op2 .ladd (.op1 .i2l (.index 0)) (.long (55 : Int64)))))).value args s none s [] = some true) :
    ∃ k : ClassId, Arv s s.heap a k .char (16 : Int32) [(.int (48 : Int32)), (.int (49 : Int32)), (.int (50 : Int32)), (.int (51 : Int32)), (.int (52 : Int32)), (.int (53 : Int32)), (.int (54 : Int32)), (.int (55 : Int32)), (.int (56 : Int32)), (.int (57 : Int32)), (.int (65 : Int32)), (.int (66 : Int32)), (.int (67 : Int32)), (.int (68 : Int32)), (.int (69 : Int32)), (.int (70 : Int32))] (.int (0 : Int32)) := by
  obtain ⟨cl, A⟩ := Arr.start ev h1
  have hat : s.arrayAt? a = some cl := Jvm.Free.IntBox.arrayAt_of A.1 A.2.1 A.2.2
  obtain ⟨z1, z2⟩ := Jvm.Free.IntBox.length_fwd (args := args) (Cond.before_iff.mpr h2) ev A.1 A.2.1 A.2.2
  have z3 : cl.slots.size = 16 := by
    have := len_toInt z1
    rw [z2] at this
    have c : ((16 : Int32)).toInt = 16 := by decide
    omega
  have E : ∀ i : Nat, (Term.static C n d).eval args s none [i] s = some (.ref a) := fun i => ev
  have s0 : cl.slots[0]? = some (.int (48 : Int32)) := by
    obtain ⟨x, g1, g2⟩ := own_hexcase (i := 0) (by decide) (E 0) A.1 (own_or_e (Cond.all_elim ev hat h3 0 (by omega)) rfl)
    rw [g1, own_hexlit g2 (k := 48) (by decide)]
  have s1 : cl.slots[1]? = some (.int (49 : Int32)) := by
    obtain ⟨x, g1, g2⟩ := own_hexcase (i := 1) (by decide) (E 1) A.1 (own_or_e (Cond.all_elim ev hat h3 1 (by omega)) rfl)
    rw [g1, own_hexlit g2 (k := 49) (by decide)]
  have s2 : cl.slots[2]? = some (.int (50 : Int32)) := by
    obtain ⟨x, g1, g2⟩ := own_hexcase (i := 2) (by decide) (E 2) A.1 (own_or_e (Cond.all_elim ev hat h3 2 (by omega)) rfl)
    rw [g1, own_hexlit g2 (k := 50) (by decide)]
  have s3 : cl.slots[3]? = some (.int (51 : Int32)) := by
    obtain ⟨x, g1, g2⟩ := own_hexcase (i := 3) (by decide) (E 3) A.1 (own_or_e (Cond.all_elim ev hat h3 3 (by omega)) rfl)
    rw [g1, own_hexlit g2 (k := 51) (by decide)]
  have s4 : cl.slots[4]? = some (.int (52 : Int32)) := by
    obtain ⟨x, g1, g2⟩ := own_hexcase (i := 4) (by decide) (E 4) A.1 (own_or_e (Cond.all_elim ev hat h3 4 (by omega)) rfl)
    rw [g1, own_hexlit g2 (k := 52) (by decide)]
  have s5 : cl.slots[5]? = some (.int (53 : Int32)) := by
    obtain ⟨x, g1, g2⟩ := own_hexcase (i := 5) (by decide) (E 5) A.1 (own_or_e (Cond.all_elim ev hat h3 5 (by omega)) rfl)
    rw [g1, own_hexlit g2 (k := 53) (by decide)]
  have s6 : cl.slots[6]? = some (.int (54 : Int32)) := by
    obtain ⟨x, g1, g2⟩ := own_hexcase (i := 6) (by decide) (E 6) A.1 (own_or_e (Cond.all_elim ev hat h3 6 (by omega)) rfl)
    rw [g1, own_hexlit g2 (k := 54) (by decide)]
  have s7 : cl.slots[7]? = some (.int (55 : Int32)) := by
    obtain ⟨x, g1, g2⟩ := own_hexcase (i := 7) (by decide) (E 7) A.1 (own_or_e (Cond.all_elim ev hat h3 7 (by omega)) rfl)
    rw [g1, own_hexlit g2 (k := 55) (by decide)]
  have s8 : cl.slots[8]? = some (.int (56 : Int32)) := by
    obtain ⟨x, g1, g2⟩ := own_hexcase (i := 8) (by decide) (E 8) A.1 (own_or_e (Cond.all_elim ev hat h3 8 (by omega)) rfl)
    rw [g1, own_hexlit g2 (k := 56) (by decide)]
  have s9 : cl.slots[9]? = some (.int (57 : Int32)) := by
    obtain ⟨x, g1, g2⟩ := own_hexcase (i := 9) (by decide) (E 9) A.1 (own_or_e (Cond.all_elim ev hat h3 9 (by omega)) rfl)
    rw [g1, own_hexlit g2 (k := 57) (by decide)]
  have s10 : cl.slots[10]? = some (.int (65 : Int32)) := by
    obtain ⟨x, g1, g2⟩ := own_hexcase (i := 10) (by decide) (E 10) A.1 (own_or_e (Cond.all_elim ev hat h4 10 (by omega)) rfl)
    rw [g1, own_hexlit g2 (k := 65) (by decide)]
  have s11 : cl.slots[11]? = some (.int (66 : Int32)) := by
    obtain ⟨x, g1, g2⟩ := own_hexcase (i := 11) (by decide) (E 11) A.1 (own_or_e (Cond.all_elim ev hat h4 11 (by omega)) rfl)
    rw [g1, own_hexlit g2 (k := 66) (by decide)]
  have s12 : cl.slots[12]? = some (.int (67 : Int32)) := by
    obtain ⟨x, g1, g2⟩ := own_hexcase (i := 12) (by decide) (E 12) A.1 (own_or_e (Cond.all_elim ev hat h4 12 (by omega)) rfl)
    rw [g1, own_hexlit g2 (k := 67) (by decide)]
  have s13 : cl.slots[13]? = some (.int (68 : Int32)) := by
    obtain ⟨x, g1, g2⟩ := own_hexcase (i := 13) (by decide) (E 13) A.1 (own_or_e (Cond.all_elim ev hat h4 13 (by omega)) rfl)
    rw [g1, own_hexlit g2 (k := 68) (by decide)]
  have s14 : cl.slots[14]? = some (.int (69 : Int32)) := by
    obtain ⟨x, g1, g2⟩ := own_hexcase (i := 14) (by decide) (E 14) A.1 (own_or_e (Cond.all_elim ev hat h4 14 (by omega)) rfl)
    rw [g1, own_hexlit g2 (k := 69) (by decide)]
  have s15 : cl.slots[15]? = some (.int (70 : Int32)) := by
    obtain ⟨x, g1, g2⟩ := own_hexcase (i := 15) (by decide) (E 15) A.1 (own_or_e (Cond.all_elim ev hat h4 15 (by omega)) rfl)
    rw [g1, own_hexlit g2 (k := 70) (by decide)]
  exact ⟨cl.cls, Arv.start hf A z1 z2 (by decide) (by decide) ⟨s0, s1, s2, s3, s4, s5, s6, s7, s8, s9, s10, s11, s12, s13, s14, s15, trivial⟩⟩
theorem pn_0 : plainName "com/example/hemawire/hemawire/lis/LinkCodesIsChecksumPinLaw" = true := by first | (simp [plainName, overriddenIn]; done) | decide +kernel
theorem ef_1 (m : MethodId) (x0 : Int32) : entryFrame m #[(.int x0)] 1 = mkF m 0 #[.val (.int x0)] [] := by first | (simp [entryFrame, mkF, argsToLocals, Value.category]; done) | rfl
theorem d3_0 : decode method_2_code 0 = .ok (.iload_n 0, 1) := by decide +kernel
theorem d3_1 : decode method_2_code 1 = .ok (.bipush 10, 2) := by decide +kernel
theorem d3_3 : decode method_2_code 3 = .ok (.if_icmp .ge 10, 3) := by decide +kernel
theorem d3_6 : decode method_2_code 6 = .ok (.bipush 48, 2) := by decide +kernel
theorem d3_8 : decode method_2_code 8 = .ok (.iload_n 0, 1) := by decide +kernel
theorem d3_9 : decode method_2_code 9 = .ok (.iadd, 1) := by decide +kernel
theorem d3_10 : decode method_2_code 10 = .ok (.goto 10, 3) := by decide +kernel
theorem d3_20 : decode method_2_code 20 = .ok (.ireturn, 1) := by decide +kernel
theorem d3_13 : decode method_2_code 13 = .ok (.bipush 65, 2) := by decide +kernel
theorem d3_15 : decode method_2_code 15 = .ok (.iload_n 0, 1) := by decide +kernel
theorem d3_16 : decode method_2_code 16 = .ok (.bipush 10, 2) := by decide +kernel
theorem d3_18 : decode method_2_code 18 = .ok (.isub, 1) := by decide +kernel
theorem d3_19 : decode method_2_code 19 = .ok (.iadd, 1) := by decide +kernel
def Q_hexUp (Z : State) (xd : Int32) (h0 : Heap) (n0 : Nat) (v : Option Value) (h : Heap) (L : List Loc) : Prop := v = some (.int (own_hexUp xd)) ∧ Fr n0 L ∧ h = h0
set_option maxRecDepth 65536 in
set_option maxHeartbeats 40000000 in
theorem rm_hexUp (l : Launch) (Z : State) (a0 : Array Value) (hw : ∀ d ∈ tables_1, d.before a0 Z = true) (ws : List Jvm.Cond) (xd : Int32) (h0 : Heap) (n0 : Nat) (O0 : Old Z n0 h0) :
    MetFree l (⟨"com/example/hemawire/hemawire/lis/LinkCodesIsChecksumPinLaw", "hexUp", "(I)I"⟩ : MethodName) (head1 (Jvm.Cond.code (⟨"com/example/hemawire/hemawire/lis/LinkCodesIsChecksumPinLaw", "hexUp", "(I)I"⟩ : MethodName) method_2_code 1 (some .int) :: ws) ({ frames := 0, cells := 0, slots := 0, locals := 0 } : Room)) (fun a U => a = #[(.int xd)] ∧ Z.Warmed39 U.vm ∧ U.heap = h0) (fun _ _ _ _ _ => True) (fun _ U o U' => ∃ v L, o = .returned v ∧ Q_hexUp Z xd h0 n0 v U'.heap L ∧ FrameEnd U o U' L ({ frames := 0, cells := 0, slots := 0, locals := 0 } : Room).cells ({ frames := 0, cells := 0, slots := 0, locals := 0 } : Room).slots) := by
  refine MetFree.of_bodySF (plainFor_of_name pn_0) hisR ?_
  intro p e s m args below meth c s₁ Bd hml0 hP hK
  obtain ⟨rfl, hZ, hh⟩ := hP
  have hx := Bd.exec
  have hby := Bd.bytes
  have hml : c.maxLocals = 1 := hml0
  have hown : s.vm.findClass "com/example/hemawire/hemawire/lis/LinkCodesIsChecksumPinLaw" = some m.cls := findClass_of_methodNamed Bd.named
  have hnm := (name_of_methodNamed Bd.named Bd.method).1
  have X0 : Stand p l e ({ frames := 0, cells := 0, slots := 0, locals := 0 } : Room) s m #[(.int xd)] below meth c s₁ [] 0 0 := Stand.of_body Bd
  have e0 : s₁.heap = h0 := by rw [← hh, Bd.state]; rfl
  have N0 := Fr.nil n0
  have pre0 : ∀ t, Steps p.tables e below (s₁.setTop (mkF m 0 #[.val (.int xd)] [])) t → Steps p.tables e below (s₁.setTop (entryFrame m #[(.int xd)] 1)) t := fun t k => castTop (ef_1 m xd) k
  have K0 : Keep h0 h0 [] := Keep.refl h0 []
  have pre1 : ∀ t, Steps p.tables e below (s₁.setTop (mkF m 3 #[.val (.int xd)] [(.int (10 : Int32)), (.int xd)])) t → Steps p.tables e below (s₁.setTop (entryFrame m #[(.int xd)] 1)) t := fun t kt => by
    refine pre0 _ ?_
    show Steps p.tables e below (s₁.setTop (mkF m 0 #[.val (.int xd)] [])) _
    refine XS.iloadN X0.here hx rfl (hb hby d3_0) rfl ?_
    show Steps p.tables e below (s₁.setTop (mkF m 1 #[.val (.int xd)] [(.int xd)])) _
    refine XS.bipush X0.here hx rfl (hb hby d3_1) ?_
    exact kt
  by_cases hc2 : xd < (10 : Int32)
  · have pre3 : ∀ t, Steps p.tables e below (s₁.setTop (mkF m 20 #[.val (.int xd)] [(.int ((48 : Int32) + xd))])) t → Steps p.tables e below (s₁.setTop (entryFrame m #[(.int xd)] 1)) t := fun t kt => by
      refine pre1 _ ?_
      show Steps p.tables e below (s₁.setTop (mkF m 3 #[.val (.int xd)] [(.int (10 : Int32)), (.int xd)])) _
      refine XS.icmpNo X0.here hx rfl (hb hby d3_3) rfl (XT.ii_ge_f hc2) ?_
      show Steps p.tables e below (s₁.setTop (mkF m 6 #[.val (.int xd)] [])) _
      refine XS.bipush X0.here hx rfl (hb hby d3_6) ?_
      show Steps p.tables e below (s₁.setTop (mkF m 8 #[.val (.int xd)] [(.int (48 : Int32))])) _
      refine XS.iloadN X0.here hx rfl (hb hby d3_8) rfl ?_
      show Steps p.tables e below (s₁.setTop (mkF m 9 #[.val (.int xd)] [(.int xd), (.int (48 : Int32))])) _
      refine XS.iadd X0.here hx rfl (hb hby d3_9) rfl ?_
      show Steps p.tables e below (s₁.setTop (mkF m 10 #[.val (.int xd)] [(.int ((48 : Int32) + xd))])) _
      refine XS.goto X0.here hx rfl (pc0 := 10) (pc' := 20) rfl (hb hby d3_10) (by decide) (by decide) ?_
      exact kt
    -- returns (.int ((48 : Int32) + xd)), wanted (.int (own_hexUp xd))
    obtain ⟨fs, hr, hrun, hended, hW, hsame⟩ := X0.leave (v := some (.int ((48 : Int32) + xd))) (fun h => by rw [Bd.returns] at h; cases h)
    refine ⟨_, _, pre3 _ (retI X0 hx Bd.returns (hb hby d3_20) hr), hrun, hended, _, _, rfl, ?_, ⟨_, rfl⟩, hW, hsame.mono (by decide) (by decide)⟩
    show Q_hexUp Z xd h0 n0 _ s₁.heap _
    rw [e0]
    exact ⟨(congrArg (fun z => some (Value.int z)) (if_pos hc2).symm), N0, rfl⟩
  · have pre4 : ∀ t, Steps p.tables e below (s₁.setTop (mkF m 20 #[.val (.int xd)] [(.int ((65 : Int32) + (xd - (10 : Int32))))])) t → Steps p.tables e below (s₁.setTop (entryFrame m #[(.int xd)] 1)) t := fun t kt => by
      refine pre1 _ ?_
      show Steps p.tables e below (s₁.setTop (mkF m 3 #[.val (.int xd)] [(.int (10 : Int32)), (.int xd)])) _
      refine XS.icmpYes X0.here hx rfl (pc0 := 3) (pc' := 13) rfl (hb hby d3_3) rfl (XT.ii_ge_t hc2) (by decide) (by decide) ?_
      show Steps p.tables e below (s₁.setTop (mkF m 13 #[.val (.int xd)] [])) _
      refine XS.bipush X0.here hx rfl (hb hby d3_13) ?_
      show Steps p.tables e below (s₁.setTop (mkF m 15 #[.val (.int xd)] [(.int (65 : Int32))])) _
      refine XS.iloadN X0.here hx rfl (hb hby d3_15) rfl ?_
      show Steps p.tables e below (s₁.setTop (mkF m 16 #[.val (.int xd)] [(.int xd), (.int (65 : Int32))])) _
      refine XS.bipush X0.here hx rfl (hb hby d3_16) ?_
      show Steps p.tables e below (s₁.setTop (mkF m 18 #[.val (.int xd)] [(.int (10 : Int32)), (.int xd), (.int (65 : Int32))])) _
      refine XS.isub X0.here hx rfl (hb hby d3_18) rfl ?_
      show Steps p.tables e below (s₁.setTop (mkF m 19 #[.val (.int xd)] [(.int (xd - (10 : Int32))), (.int (65 : Int32))])) _
      refine XS.iadd X0.here hx rfl (hb hby d3_19) rfl ?_
      exact kt
    -- returns (.int ((65 : Int32) + (xd - (10 : Int32)))), wanted (.int (own_hexUp xd))
    obtain ⟨fs, hr, hrun, hended, hW, hsame⟩ := X0.leave (v := some (.int ((65 : Int32) + (xd - (10 : Int32))))) (fun h => by rw [Bd.returns] at h; cases h)
    refine ⟨_, _, pre4 _ (retI X0 hx Bd.returns (hb hby d3_20) hr), hrun, hended, _, _, rfl, ?_, ⟨_, rfl⟩, hW, hsame.mono (by decide) (by decide)⟩
    show Q_hexUp Z xd h0 n0 _ s₁.heap _
    rw [e0]
    exact ⟨(congrArg (fun z => some (Value.int z)) (if_neg hc2).symm), N0, rfl⟩
theorem ef_2 (m : MethodId) (x0 : Int32) : entryFrame m #[(.int x0)] 1 = mkF m 0 #[.val (.int x0)] [] := by first | (simp [entryFrame, mkF, argsToLocals, Value.category]; done) | rfl
theorem d2_0 : decode method_3_code 0 = .ok (.iload_n 0, 1) := by decide +kernel
theorem d2_1 : decode method_3_code 1 = .ok (.bipush 10, 2) := by decide +kernel
theorem d2_3 : decode method_3_code 3 = .ok (.if_icmp .ge 10, 3) := by decide +kernel
theorem d2_6 : decode method_3_code 6 = .ok (.bipush 48, 2) := by decide +kernel
theorem d2_8 : decode method_3_code 8 = .ok (.iload_n 0, 1) := by decide +kernel
theorem d2_9 : decode method_3_code 9 = .ok (.iadd, 1) := by decide +kernel
theorem d2_10 : decode method_3_code 10 = .ok (.goto 10, 3) := by decide +kernel
theorem d2_20 : decode method_3_code 20 = .ok (.ireturn, 1) := by decide +kernel
theorem d2_13 : decode method_3_code 13 = .ok (.bipush 97, 2) := by decide +kernel
theorem d2_15 : decode method_3_code 15 = .ok (.iload_n 0, 1) := by decide +kernel
theorem d2_16 : decode method_3_code 16 = .ok (.bipush 10, 2) := by decide +kernel
theorem d2_18 : decode method_3_code 18 = .ok (.isub, 1) := by decide +kernel
theorem d2_19 : decode method_3_code 19 = .ok (.iadd, 1) := by decide +kernel
def Q_hexLow (Z : State) (xd : Int32) (h0 : Heap) (n0 : Nat) (v : Option Value) (h : Heap) (L : List Loc) : Prop := v = some (.int (own_hexLow xd)) ∧ Fr n0 L ∧ h = h0
set_option maxRecDepth 65536 in
set_option maxHeartbeats 40000000 in
theorem rm_hexLow (l : Launch) (Z : State) (a0 : Array Value) (hw : ∀ d ∈ tables_1, d.before a0 Z = true) (ws : List Jvm.Cond) (xd : Int32) (h0 : Heap) (n0 : Nat) (O0 : Old Z n0 h0) :
    MetFree l (⟨"com/example/hemawire/hemawire/lis/LinkCodesIsChecksumPinLaw", "hexLow", "(I)I"⟩ : MethodName) (head1 (Jvm.Cond.code (⟨"com/example/hemawire/hemawire/lis/LinkCodesIsChecksumPinLaw", "hexLow", "(I)I"⟩ : MethodName) method_3_code 1 (some .int) :: ws) ({ frames := 0, cells := 0, slots := 0, locals := 0 } : Room)) (fun a U => a = #[(.int xd)] ∧ Z.Warmed39 U.vm ∧ U.heap = h0) (fun _ _ _ _ _ => True) (fun _ U o U' => ∃ v L, o = .returned v ∧ Q_hexLow Z xd h0 n0 v U'.heap L ∧ FrameEnd U o U' L ({ frames := 0, cells := 0, slots := 0, locals := 0 } : Room).cells ({ frames := 0, cells := 0, slots := 0, locals := 0 } : Room).slots) := by
  refine MetFree.of_bodySF (plainFor_of_name pn_0) hisR ?_
  intro p e s m args below meth c s₁ Bd hml0 hP hK
  obtain ⟨rfl, hZ, hh⟩ := hP
  have hx := Bd.exec
  have hby := Bd.bytes
  have hml : c.maxLocals = 1 := hml0
  have hown : s.vm.findClass "com/example/hemawire/hemawire/lis/LinkCodesIsChecksumPinLaw" = some m.cls := findClass_of_methodNamed Bd.named
  have hnm := (name_of_methodNamed Bd.named Bd.method).1
  have X0 : Stand p l e ({ frames := 0, cells := 0, slots := 0, locals := 0 } : Room) s m #[(.int xd)] below meth c s₁ [] 0 0 := Stand.of_body Bd
  have e0 : s₁.heap = h0 := by rw [← hh, Bd.state]; rfl
  have N0 := Fr.nil n0
  have pre0 : ∀ t, Steps p.tables e below (s₁.setTop (mkF m 0 #[.val (.int xd)] [])) t → Steps p.tables e below (s₁.setTop (entryFrame m #[(.int xd)] 1)) t := fun t k => castTop (ef_2 m xd) k
  have K0 : Keep h0 h0 [] := Keep.refl h0 []
  have pre5 : ∀ t, Steps p.tables e below (s₁.setTop (mkF m 3 #[.val (.int xd)] [(.int (10 : Int32)), (.int xd)])) t → Steps p.tables e below (s₁.setTop (entryFrame m #[(.int xd)] 1)) t := fun t kt => by
    refine pre0 _ ?_
    show Steps p.tables e below (s₁.setTop (mkF m 0 #[.val (.int xd)] [])) _
    refine XS.iloadN X0.here hx rfl (hb hby d2_0) rfl ?_
    show Steps p.tables e below (s₁.setTop (mkF m 1 #[.val (.int xd)] [(.int xd)])) _
    refine XS.bipush X0.here hx rfl (hb hby d2_1) ?_
    exact kt
  by_cases hc6 : xd < (10 : Int32)
  · have pre7 : ∀ t, Steps p.tables e below (s₁.setTop (mkF m 20 #[.val (.int xd)] [(.int ((48 : Int32) + xd))])) t → Steps p.tables e below (s₁.setTop (entryFrame m #[(.int xd)] 1)) t := fun t kt => by
      refine pre5 _ ?_
      show Steps p.tables e below (s₁.setTop (mkF m 3 #[.val (.int xd)] [(.int (10 : Int32)), (.int xd)])) _
      refine XS.icmpNo X0.here hx rfl (hb hby d2_3) rfl (XT.ii_ge_f hc6) ?_
      show Steps p.tables e below (s₁.setTop (mkF m 6 #[.val (.int xd)] [])) _
      refine XS.bipush X0.here hx rfl (hb hby d2_6) ?_
      show Steps p.tables e below (s₁.setTop (mkF m 8 #[.val (.int xd)] [(.int (48 : Int32))])) _
      refine XS.iloadN X0.here hx rfl (hb hby d2_8) rfl ?_
      show Steps p.tables e below (s₁.setTop (mkF m 9 #[.val (.int xd)] [(.int xd), (.int (48 : Int32))])) _
      refine XS.iadd X0.here hx rfl (hb hby d2_9) rfl ?_
      show Steps p.tables e below (s₁.setTop (mkF m 10 #[.val (.int xd)] [(.int ((48 : Int32) + xd))])) _
      refine XS.goto X0.here hx rfl (pc0 := 10) (pc' := 20) rfl (hb hby d2_10) (by decide) (by decide) ?_
      exact kt
    -- returns (.int ((48 : Int32) + xd)), wanted (.int (own_hexLow xd))
    obtain ⟨fs, hr, hrun, hended, hW, hsame⟩ := X0.leave (v := some (.int ((48 : Int32) + xd))) (fun h => by rw [Bd.returns] at h; cases h)
    refine ⟨_, _, pre7 _ (retI X0 hx Bd.returns (hb hby d2_20) hr), hrun, hended, _, _, rfl, ?_, ⟨_, rfl⟩, hW, hsame.mono (by decide) (by decide)⟩
    show Q_hexLow Z xd h0 n0 _ s₁.heap _
    rw [e0]
    exact ⟨(congrArg (fun z => some (Value.int z)) (if_pos hc6).symm), N0, rfl⟩
  · have pre8 : ∀ t, Steps p.tables e below (s₁.setTop (mkF m 20 #[.val (.int xd)] [(.int ((97 : Int32) + (xd - (10 : Int32))))])) t → Steps p.tables e below (s₁.setTop (entryFrame m #[(.int xd)] 1)) t := fun t kt => by
      refine pre5 _ ?_
      show Steps p.tables e below (s₁.setTop (mkF m 3 #[.val (.int xd)] [(.int (10 : Int32)), (.int xd)])) _
      refine XS.icmpYes X0.here hx rfl (pc0 := 3) (pc' := 13) rfl (hb hby d2_3) rfl (XT.ii_ge_t hc6) (by decide) (by decide) ?_
      show Steps p.tables e below (s₁.setTop (mkF m 13 #[.val (.int xd)] [])) _
      refine XS.bipush X0.here hx rfl (hb hby d2_13) ?_
      show Steps p.tables e below (s₁.setTop (mkF m 15 #[.val (.int xd)] [(.int (97 : Int32))])) _
      refine XS.iloadN X0.here hx rfl (hb hby d2_15) rfl ?_
      show Steps p.tables e below (s₁.setTop (mkF m 16 #[.val (.int xd)] [(.int xd), (.int (97 : Int32))])) _
      refine XS.bipush X0.here hx rfl (hb hby d2_16) ?_
      show Steps p.tables e below (s₁.setTop (mkF m 18 #[.val (.int xd)] [(.int (10 : Int32)), (.int xd), (.int (97 : Int32))])) _
      refine XS.isub X0.here hx rfl (hb hby d2_18) rfl ?_
      show Steps p.tables e below (s₁.setTop (mkF m 19 #[.val (.int xd)] [(.int (xd - (10 : Int32))), (.int (97 : Int32))])) _
      refine XS.iadd X0.here hx rfl (hb hby d2_19) rfl ?_
      exact kt
    -- returns (.int ((97 : Int32) + (xd - (10 : Int32)))), wanted (.int (own_hexLow xd))
    obtain ⟨fs, hr, hrun, hended, hW, hsame⟩ := X0.leave (v := some (.int ((97 : Int32) + (xd - (10 : Int32))))) (fun h => by rw [Bd.returns] at h; cases h)
    refine ⟨_, _, pre8 _ (retI X0 hx Bd.returns (hb hby d2_20) hr), hrun, hended, _, _, rfl, ?_, ⟨_, rfl⟩, hW, hsame.mono (by decide) (by decide)⟩
    show Q_hexLow Z xd h0 n0 _ s₁.heap _
    rw [e0]
    exact ⟨(congrArg (fun z => some (Value.int z)) (if_neg hc6).symm), N0, rfl⟩
theorem ef_3 (m : MethodId) (x0 : Int32) (x1 : Int32) (x2 : Int32) : entryFrame m #[(.int x0), (.int x1), (.int x2)] 3 = mkF m 0 #[.val (.int x0), .val (.int x1), .val (.int x2)] [] := by first | (simp [entryFrame, mkF, argsToLocals, Value.category]; done) | rfl
theorem d1_0 : decode method_4_code 0 = .ok (.iload_n 0, 1) := by decide +kernel
theorem d1_1 : decode method_4_code 1 = .ok (.ifCond .ne 8, 3) := by decide +kernel
theorem d1_4 : decode method_4_code 4 = .ok (.iload_n 1, 1) := by decide +kernel
theorem d1_5 : decode method_4_code 5 = .ok (.invokestatic 7, 3) := by decide +kernel
theorem pd_4 : parseMethodDescriptor "(I)I" = some ⟨[.int], some .int⟩ := by decide +kernel
theorem d1_8 : decode method_4_code 8 = .ok (.ireturn, 1) := by decide +kernel
theorem d1_9 : decode method_4_code 9 = .ok (.iload_n 0, 1) := by decide +kernel
theorem d1_10 : decode method_4_code 10 = .ok (.iconst 1, 1) := by decide +kernel
theorem d1_11 : decode method_4_code 11 = .ok (.if_icmp .ne 8, 3) := by decide +kernel
theorem d1_14 : decode method_4_code 14 = .ok (.iload_n 1, 1) := by decide +kernel
theorem d1_15 : decode method_4_code 15 = .ok (.invokestatic 13, 3) := by decide +kernel
theorem d1_18 : decode method_4_code 18 = .ok (.ireturn, 1) := by decide +kernel
theorem d1_19 : decode method_4_code 19 = .ok (.iload_n 2, 1) := by decide +kernel
theorem d1_20 : decode method_4_code 20 = .ok (.ireturn, 1) := by decide +kernel
def Q_pick (Z : State) (xq : Int32) (xd : Int32) (xa : Int32) (h0 : Heap) (n0 : Nat) (v : Option Value) (h : Heap) (L : List Loc) : Prop := v = some (.int (own_pick xq xd xa)) ∧ Fr n0 L ∧ h = h0
set_option maxRecDepth 65536 in
set_option maxHeartbeats 40000000 in
theorem rm_pick (l : Launch) (Z : State) (a0 : Array Value) (hw : ∀ d ∈ tables_1, d.before a0 Z = true) (ws : List Jvm.Cond) (xq : Int32) (xd : Int32) (xa : Int32) (h0 : Heap) (n0 : Nat) (O0 : Old Z n0 h0) :
    MetFree l (⟨"com/example/hemawire/hemawire/lis/LinkCodesIsChecksumPinLaw", "pick", "(III)I"⟩ : MethodName) (head1 (Jvm.Cond.code (⟨"com/example/hemawire/hemawire/lis/LinkCodesIsChecksumPinLaw", "pick", "(III)I"⟩ : MethodName) method_4_code 3 (some .int) :: ws) ({ frames := 1, cells := 0, slots := 0, locals := 12 } : Room)) (fun a U => a = #[(.int xq), (.int xd), (.int xa)] ∧ Z.Warmed39 U.vm ∧ U.heap = h0) (fun _ _ _ _ _ => True) (fun _ U o U' => ∃ v L, o = .returned v ∧ Q_pick Z xq xd xa h0 n0 v U'.heap L ∧ FrameEnd U o U' L ({ frames := 1, cells := 0, slots := 0, locals := 12 } : Room).cells ({ frames := 1, cells := 0, slots := 0, locals := 12 } : Room).slots) := by
  refine MetFree.of_bodySF (plainFor_of_name pn_0) hisR ?_
  intro p e s m args below meth c s₁ Bd hml0 hP hK
  obtain ⟨rfl, hZ, hh⟩ := hP
  have hx := Bd.exec
  have hby := Bd.bytes
  have hml : c.maxLocals = 3 := hml0
  have hown : s.vm.findClass "com/example/hemawire/hemawire/lis/LinkCodesIsChecksumPinLaw" = some m.cls := findClass_of_methodNamed Bd.named
  have hnm := (name_of_methodNamed Bd.named Bd.method).1
  have X0 : Stand p l e ({ frames := 1, cells := 0, slots := 0, locals := 12 } : Room) s m #[(.int xq), (.int xd), (.int xa)] below meth c s₁ [] 0 0 := Stand.of_body Bd
  have e0 : s₁.heap = h0 := by rw [← hh, Bd.state]; rfl
  have N0 := Fr.nil n0
  have pre0 : ∀ t, Steps p.tables e below (s₁.setTop (mkF m 0 #[.val (.int xq), .val (.int xd), .val (.int xa)] [])) t → Steps p.tables e below (s₁.setTop (entryFrame m #[(.int xq), (.int xd), (.int xa)] 3)) t := fun t k => castTop (ef_3 m xq xd xa) k
  have K0 : Keep h0 h0 [] := Keep.refl h0 []
  have pre9 : ∀ t, Steps p.tables e below (s₁.setTop (mkF m 1 #[.val (.int xq), .val (.int xd), .val (.int xa)] [(.int xq)])) t → Steps p.tables e below (s₁.setTop (entryFrame m #[(.int xq), (.int xd), (.int xa)] 3)) t := fun t kt => by
    refine pre0 _ ?_
    show Steps p.tables e below (s₁.setTop (mkF m 0 #[.val (.int xq), .val (.int xd), .val (.int xa)] [])) _
    refine XS.iloadN X0.here hx rfl (hb hby d1_0) rfl ?_
    exact kt
  by_cases hc10 : xq = (0 : Int32)
  · have pre11 : ∀ t, Steps p.tables e below (s₁.setTop (mkF m 5 #[.val (.int xq), .val (.int xd), .val (.int xa)] [(.int xd)])) t → Steps p.tables e below (s₁.setTop (entryFrame m #[(.int xq), (.int xd), (.int xa)] 3)) t := fun t kt => by
      refine pre9 _ ?_
      show Steps p.tables e below (s₁.setTop (mkF m 1 #[.val (.int xq), .val (.int xd), .val (.int xa)] [(.int xq)])) _
      refine XS.ifNo X0.here hx rfl (hb hby d1_1) rfl (XT.i0_ne_f hc10) ?_
      show Steps p.tables e below (s₁.setTop (mkF m 4 #[.val (.int xq), .val (.int xd), .val (.int xa)] [])) _
      refine XS.iloadN X0.here hx rfl (hb hby d1_4) rfl ?_
      exact kt
    obtain ⟨_, _, ⟨T12, L12, k12, n12⟩, -, X12, ⟨Lc12, hQ12, l12, y12, z12⟩, st12⟩ := Jvm.LawKit.callS X0 hx (y := (⟨"com/example/hemawire/hemawire/lis/LinkCodesIsChecksumPinLaw", "hexUp", "(I)I"⟩ : MethodName)) hown (mvT hZ (hw _ (List.mem_of_getElem? (i := 8) rfl))) (mvT hZ (hw _ (List.mem_of_getElem? (i := 9) rfl))) (mvT hZ (hw _ (List.mem_of_getElem? (i := 3) rfl))) (mvT hZ (hw _ (List.mem_of_getElem? (i := 10) rfl))) (by decide) (backOf (W := 0) (rm_hexUp l Z a0 hw [] xd h0 n0 O0) hZ (hw _ (List.mem_of_getElem? (i := 10) rfl)) (hw _ (List.mem_of_getElem? (i := 3) rfl)) (by decide) (by decide)) (g := (mkF m 5 #[.val (.int xq), .val (.int xd), .val (.int xa)] [(.int xd)])) rfl (by rw [hml]; rfl) (argsL := [(.int xd)]) (rest := []) (lenOf pd_4 rfl) rfl (by show 2 * 0 + _ ≤ _; exact Nat.le_of_eq rfl) (hb hby d1_5) (fun _ _ => ⟨rfl, e0, (by decide : 0 + 0 ≤ _), (by decide : 0 + 0 ≤ _)⟩)
    dsimp only [Pt.U, Pt.locs, Pt.cells, Pt.slots] at X12 l12 y12 z12 st12 hQ12
    subst l12 y12 z12
    obtain ⟨rfl, M12, e12⟩ := hQ12
    have N12 := Fr.app N0 M12
    have pre13 : ∀ t, Steps p.tables e below (T12.setTop (mkF m 8 #[.val (.int xq), .val (.int xd), .val (.int xa)] [(.int (own_hexUp xd))])) t → Steps p.tables e below (s₁.setTop (entryFrame m #[(.int xq), (.int xd), (.int xa)] 3)) t := fun t kt => pre11 _ (st12 _ kt)
    -- returns (.int (own_hexUp xd)), wanted (.int (own_pick xq xd xa))
    obtain ⟨fs, hr, hrun, hended, hW, hsame⟩ := X12.leave (v := some (.int (own_hexUp xd))) (fun h => by rw [Bd.returns] at h; cases h)
    refine ⟨_, _, pre13 _ (retI X12 hx Bd.returns (hb hby d1_8) hr), hrun, hended, _, _, rfl, ?_, ⟨_, rfl⟩, hW, hsame.mono (by decide) (by decide)⟩
    show Q_pick Z xq xd xa h0 n0 _ T12.heap _
    rw [e12]
    exact ⟨(congrArg (fun z => some (Value.int z)) (if_pos hc10).symm), N12, rfl⟩
  · have pre14 : ∀ t, Steps p.tables e below (s₁.setTop (mkF m 11 #[.val (.int xq), .val (.int xd), .val (.int xa)] [(.int (1 : Int32)), (.int xq)])) t → Steps p.tables e below (s₁.setTop (entryFrame m #[(.int xq), (.int xd), (.int xa)] 3)) t := fun t kt => by
      refine pre9 _ ?_
      show Steps p.tables e below (s₁.setTop (mkF m 1 #[.val (.int xq), .val (.int xd), .val (.int xa)] [(.int xq)])) _
      refine XS.ifYes X0.here hx rfl (pc0 := 1) (pc' := 9) rfl (hb hby d1_1) rfl (XT.i0_ne_t hc10) (by decide) (by decide) ?_
      show Steps p.tables e below (s₁.setTop (mkF m 9 #[.val (.int xq), .val (.int xd), .val (.int xa)] [])) _
      refine XS.iloadN X0.here hx rfl (hb hby d1_9) rfl ?_
      show Steps p.tables e below (s₁.setTop (mkF m 10 #[.val (.int xq), .val (.int xd), .val (.int xa)] [(.int xq)])) _
      refine XS.iconst X0.here hx rfl (hb hby d1_10) ?_
      exact kt
    by_cases hc15 : xq = (1 : Int32)
    · have pre16 : ∀ t, Steps p.tables e below (s₁.setTop (mkF m 15 #[.val (.int xq), .val (.int xd), .val (.int xa)] [(.int xd)])) t → Steps p.tables e below (s₁.setTop (entryFrame m #[(.int xq), (.int xd), (.int xa)] 3)) t := fun t kt => by
        refine pre14 _ ?_
        show Steps p.tables e below (s₁.setTop (mkF m 11 #[.val (.int xq), .val (.int xd), .val (.int xa)] [(.int (1 : Int32)), (.int xq)])) _
        refine XS.icmpNo X0.here hx rfl (hb hby d1_11) rfl (XT.ii_ne_f hc15) ?_
        show Steps p.tables e below (s₁.setTop (mkF m 14 #[.val (.int xq), .val (.int xd), .val (.int xa)] [])) _
        refine XS.iloadN X0.here hx rfl (hb hby d1_14) rfl ?_
        exact kt
      obtain ⟨_, _, ⟨T17, L17, k17, n17⟩, -, X17, ⟨Lc17, hQ17, l17, y17, z17⟩, st17⟩ := Jvm.LawKit.callS X0 hx (y := (⟨"com/example/hemawire/hemawire/lis/LinkCodesIsChecksumPinLaw", "hexLow", "(I)I"⟩ : MethodName)) hown (mvT hZ (hw _ (List.mem_of_getElem? (i := 5) rfl))) (mvT hZ (hw _ (List.mem_of_getElem? (i := 6) rfl))) (mvT hZ (hw _ (List.mem_of_getElem? (i := 3) rfl))) (mvT hZ (hw _ (List.mem_of_getElem? (i := 7) rfl))) (by decide) (backOf (W := 0) (rm_hexLow l Z a0 hw [] xd h0 n0 O0) hZ (hw _ (List.mem_of_getElem? (i := 7) rfl)) (hw _ (List.mem_of_getElem? (i := 3) rfl)) (by decide) (by decide)) (g := (mkF m 15 #[.val (.int xq), .val (.int xd), .val (.int xa)] [(.int xd)])) rfl (by rw [hml]; rfl) (argsL := [(.int xd)]) (rest := []) (lenOf pd_4 rfl) rfl (by show 2 * 0 + _ ≤ _; exact Nat.le_of_eq rfl) (hb hby d1_15) (fun _ _ => ⟨rfl, e0, (by decide : 0 + 0 ≤ _), (by decide : 0 + 0 ≤ _)⟩)
      dsimp only [Pt.U, Pt.locs, Pt.cells, Pt.slots] at X17 l17 y17 z17 st17 hQ17
      subst l17 y17 z17
      obtain ⟨rfl, M17, e17⟩ := hQ17
      have N17 := Fr.app N0 M17
      have pre18 : ∀ t, Steps p.tables e below (T17.setTop (mkF m 18 #[.val (.int xq), .val (.int xd), .val (.int xa)] [(.int (own_hexLow xd))])) t → Steps p.tables e below (s₁.setTop (entryFrame m #[(.int xq), (.int xd), (.int xa)] 3)) t := fun t kt => pre16 _ (st17 _ kt)
      -- returns (.int (own_hexLow xd)), wanted (.int (own_pick xq xd xa))
      obtain ⟨fs, hr, hrun, hended, hW, hsame⟩ := X17.leave (v := some (.int (own_hexLow xd))) (fun h => by rw [Bd.returns] at h; cases h)
      refine ⟨_, _, pre18 _ (retI X17 hx Bd.returns (hb hby d1_18) hr), hrun, hended, _, _, rfl, ?_, ⟨_, rfl⟩, hW, hsame.mono (by decide) (by decide)⟩
      show Q_pick Z xq xd xa h0 n0 _ T17.heap _
      rw [e17]
      exact ⟨(congrArg (fun z => some (Value.int z)) ((if_neg hc10).trans (if_pos hc15)).symm), N17, rfl⟩
    · have pre19 : ∀ t, Steps p.tables e below (s₁.setTop (mkF m 20 #[.val (.int xq), .val (.int xd), .val (.int xa)] [(.int xa)])) t → Steps p.tables e below (s₁.setTop (entryFrame m #[(.int xq), (.int xd), (.int xa)] 3)) t := fun t kt => by
        refine pre14 _ ?_
        show Steps p.tables e below (s₁.setTop (mkF m 11 #[.val (.int xq), .val (.int xd), .val (.int xa)] [(.int (1 : Int32)), (.int xq)])) _
        refine XS.icmpYes X0.here hx rfl (pc0 := 11) (pc' := 19) rfl (hb hby d1_11) rfl (XT.ii_ne_t hc15) (by decide) (by decide) ?_
        show Steps p.tables e below (s₁.setTop (mkF m 19 #[.val (.int xq), .val (.int xd), .val (.int xa)] [])) _
        refine XS.iloadN X0.here hx rfl (hb hby d1_19) rfl ?_
        exact kt
      -- returns (.int xa), wanted (.int (own_pick xq xd xa))
      obtain ⟨fs, hr, hrun, hended, hW, hsame⟩ := X0.leave (v := some (.int xa)) (fun h => by rw [Bd.returns] at h; cases h)
      refine ⟨_, _, pre19 _ (retI X0 hx Bd.returns (hb hby d1_20) hr), hrun, hended, _, _, rfl, ?_, ⟨_, rfl⟩, hW, hsame.mono (by decide) (by decide)⟩
      show Q_pick Z xq xd xa h0 n0 _ s₁.heap _
      rw [e0]
      exact ⟨(congrArg (fun z => some (Value.int z)) ((if_neg hc10).trans (if_neg hc15)).symm), N0, rfl⟩
theorem pn_5 : plainName "com/example/hemawire/hemawire/lis/LinkCodes" = true := by first | (simp [plainName, overriddenIn]; done) | decide +kernel
theorem ef_6 (m : MethodId) (x0 : Int32) (x1 : Int32) (x2 : Int32) : entryFrame m #[(.int x0), (.int x1), (.int x2)] 4 = mkF m 0 #[.val (.int x0), .val (.int x1), .val (.int x2), .unset] [] := by first | (simp [entryFrame, mkF, argsToLocals, Value.category]; done) | rfl
theorem d4_0 : decode prog_32_method_3_code 0 = .ok (.iload_n 0, 1) := by decide +kernel
theorem d4_1 : decode prog_32_method_3_code 1 = .ok (.sipush 256, 3) := by decide +kernel
theorem d4_4 : decode prog_32_method_3_code 4 = .ok (.irem, 1) := by decide +kernel
theorem d4_5 : decode prog_32_method_3_code 5 = .ok (.istore_n 3, 1) := by decide +kernel
theorem d4_6 : decode prog_32_method_3_code 6 = .ok (.iload_n 1, 1) := by decide +kernel
theorem d4_7 : decode prog_32_method_3_code 7 = .ok (.getstatic 9, 3) := by decide +kernel
theorem d4_10 : decode prog_32_method_3_code 10 = .ok (.iload_n 3, 1) := by decide +kernel
theorem d4_11 : decode prog_32_method_3_code 11 = .ok (.iconst 4, 1) := by decide +kernel
theorem d4_12 : decode prog_32_method_3_code 12 = .ok (.ishr, 1) := by decide +kernel
theorem d4_13 : decode prog_32_method_3_code 13 = .ok (.caload, 1) := by decide +kernel
theorem d4_14 : decode prog_32_method_3_code 14 = .ok (.if_icmp .ne 19, 3) := by decide +kernel
theorem d4_33 : decode prog_32_method_3_code 33 = .ok (.iconst 0, 1) := by decide +kernel
theorem d4_34 : decode prog_32_method_3_code 34 = .ok (.ireturn, 1) := by decide +kernel
def Q_ck0 (Z : State) (xz : Int32) (xu : Int32) (xv : Int32) (hi : Int32) (lo : Int32) (ax : Addr) (kx : ClassId) (h0 : Heap) (n0 : Nat) (v : Option Value) (h : Heap) (L : List Loc) : Prop := v = some (.int (0 : Int32)) ∧ Fr n0 L ∧ h = h0
set_option maxRecDepth 65536 in
set_option maxHeartbeats 40000000 in
theorem rm_ck0 (l : Launch) (Z : State) (a0 : Array Value) (hw : ∀ d ∈ tables_1, d.before a0 Z = true) (ws : List Jvm.Cond) (xz : Int32) (xu : Int32) (xv : Int32) (hi : Int32) (lo : Int32) (ax : Addr) (kx : ClassId) (h0 : Heap) (n0 : Nat) (O0 : Old Z n0 h0) (G0 : Sta Z Z.heap "com/example/hemawire/hemawire/lis/LinkCodes" "HEX_DIGITS" "[C" (.ref ax)) (G1 : Arv Z Z.heap ax kx .char (16 : Int32) [(.int (48 : Int32)), (.int (49 : Int32)), (.int (50 : Int32)), (.int (51 : Int32)), (.int (52 : Int32)), (.int (53 : Int32)), (.int (54 : Int32)), (.int (55 : Int32)), (.int (56 : Int32)), (.int (57 : Int32)), (.int (65 : Int32)), (.int (66 : Int32)), (.int (67 : Int32)), (.int (68 : Int32)), (.int (69 : Int32)), (.int (70 : Int32))] (.int (0 : Int32))) (q1 : ((xz - (xz / (256 : Int32)) * (256 : Int32)) >>> ((4 : Int32) &&& 31)) = hi) (q2 : ((xz - (xz / (256 : Int32)) * (256 : Int32)) &&& (15 : Int32)) = lo) (q3 : own_in hi) (q4 : own_in lo) (q5 : ¬ (xu = (own_hexUp hi))) :
    MetFree l (⟨"com/example/hemawire/hemawire/lis/LinkCodes", "isChecksum", "(III)Z"⟩ : MethodName) (head1 (Jvm.Cond.code (⟨"com/example/hemawire/hemawire/lis/LinkCodes", "isChecksum", "(III)Z"⟩ : MethodName) prog_32_method_3_code 4 (some .boolean) :: ws) ({ frames := 0, cells := 0, slots := 0, locals := 0 } : Room)) (fun a U => a = #[(.int xz), (.int xu), (.int xv)] ∧ Z.Warmed39 U.vm ∧ U.heap = h0) (fun _ _ _ _ _ => True) (fun _ U o U' => ∃ v L, o = .returned v ∧ Q_ck0 Z xz xu xv hi lo ax kx h0 n0 v U'.heap L ∧ FrameEnd U o U' L ({ frames := 0, cells := 0, slots := 0, locals := 0 } : Room).cells ({ frames := 0, cells := 0, slots := 0, locals := 0 } : Room).slots) := by
  refine MetFree.of_bodySF (plainFor_of_name pn_5) hisR ?_
  intro p e s m args below meth c s₁ Bd hml0 hP hK
  obtain ⟨rfl, hZ, hh⟩ := hP
  have hx := Bd.exec
  have hby := Bd.bytes
  have hml : c.maxLocals = 4 := hml0
  have hown : s.vm.findClass "com/example/hemawire/hemawire/lis/LinkCodes" = some m.cls := findClass_of_methodNamed Bd.named
  have hnm := (name_of_methodNamed Bd.named Bd.method).1
  have X0 : Stand p l e ({ frames := 0, cells := 0, slots := 0, locals := 0 } : Room) s m #[(.int xz), (.int xu), (.int xv)] below meth c s₁ [] 0 0 := Stand.of_body Bd
  have e0 : s₁.heap = h0 := by rw [← hh, Bd.state]; rfl
  have N0 := Fr.nil n0
  have pre0 : ∀ t, Steps p.tables e below (s₁.setTop (mkF m 0 #[.val (.int xz), .val (.int xu), .val (.int xv), .unset] [])) t → Steps p.tables e below (s₁.setTop (entryFrame m #[(.int xz), (.int xu), (.int xv)] 4)) t := fun t k => castTop (ef_6 m xz xu xv) k
  have K0 : Keep h0 h0 [] := Keep.refl h0 []
  have pre20 : ∀ t, Steps p.tables e below (s₁.setTop (mkF m 7 #[.val (.int xz), .val (.int xu), .val (.int xv), .val (.int (xz - (xz / (256 : Int32)) * (256 : Int32)))] [(.int xu)])) t → Steps p.tables e below (s₁.setTop (entryFrame m #[(.int xz), (.int xu), (.int xv)] 4)) t := fun t kt => by
    refine pre0 _ ?_
    show Steps p.tables e below (s₁.setTop (mkF m 0 #[.val (.int xz), .val (.int xu), .val (.int xv), .unset] [])) _
    refine XS.iloadN X0.here hx rfl (hb hby d4_0) rfl ?_
    show Steps p.tables e below (s₁.setTop (mkF m 1 #[.val (.int xz), .val (.int xu), .val (.int xv), .unset] [(.int xz)])) _
    refine XS.sipush X0.here hx rfl (hb hby d4_1) ?_
    show Steps p.tables e below (s₁.setTop (mkF m 4 #[.val (.int xz), .val (.int xu), .val (.int xv), .unset] [(.int (256 : Int32)), (.int xz)])) _
    refine XS.irem X0.here hx rfl (hb hby d4_4) rfl (by decide) ?_
    show Steps p.tables e below (s₁.setTop (mkF m 5 #[.val (.int xz), .val (.int xu), .val (.int xv), .unset] [(.int (xz - (xz / (256 : Int32)) * (256 : Int32)))])) _
    refine XS.istoreN X0.here hx rfl (hb hby d4_5) rfl (l' := #[.val (.int xz), .val (.int xu), .val (.int xv), .val (.int (xz - (xz / (256 : Int32)) * (256 : Int32)))]) rfl ?_
    show Steps p.tables e below (s₁.setTop (mkF m 6 #[.val (.int xz), .val (.int xu), .val (.int xv), .val (.int (xz - (xz / (256 : Int32)) * (256 : Int32)))] [])) _
    refine XS.iloadN X0.here hx rfl (hb hby d4_6) rfl ?_
    exact kt
  obtain ⟨T21, X21, e21, st21⟩ := getS2 X0 hx hZ hown (host := "") (Or.inl (hw _ (List.mem_of_getElem? (i := 15) rfl))) Via.refl e0 (G0.ext O0.2) (g := (mkF m 7 #[.val (.int xz), .val (.int xu), .val (.int xv), .val (.int (xz - (xz / (256 : Int32)) * (256 : Int32)))] [(.int xu)])) rfl (hb hby d4_7)
  have pre22 : ∀ t, Steps p.tables e below (T21.setTop (mkF m 10 #[.val (.int xz), .val (.int xu), .val (.int xv), .val (.int (xz - (xz / (256 : Int32)) * (256 : Int32)))] [(.ref ax), (.int xu)])) t → Steps p.tables e below (s₁.setTop (entryFrame m #[(.int xz), (.int xu), (.int xv)] 4)) t := fun t kt => pre20 _ (st21 _ kt)
  have pre24 : ∀ t, Steps p.tables e below (T21.setTop (mkF m 13 #[.val (.int xz), .val (.int xu), .val (.int xv), .val (.int (xz - (xz / (256 : Int32)) * (256 : Int32)))] [(.int ((xz - (xz / (256 : Int32)) * (256 : Int32)) >>> ((4 : Int32) &&& 31))), (.ref ax), (.int xu)])) t → Steps p.tables e below (s₁.setTop (entryFrame m #[(.int xz), (.int xu), (.int xv)] 4)) t := fun t kt => by
    refine pre22 _ ?_
    show Steps p.tables e below (T21.setTop (mkF m 10 #[.val (.int xz), .val (.int xu), .val (.int xv), .val (.int (xz - (xz / (256 : Int32)) * (256 : Int32)))] [(.ref ax), (.int xu)])) _
    refine XS.iloadN X21.here hx rfl (hb hby d4_10) rfl ?_
    show Steps p.tables e below (T21.setTop (mkF m 11 #[.val (.int xz), .val (.int xu), .val (.int xv), .val (.int (xz - (xz / (256 : Int32)) * (256 : Int32)))] [(.int (xz - (xz / (256 : Int32)) * (256 : Int32))), (.ref ax), (.int xu)])) _
    refine XS.iconst X21.here hx rfl (hb hby d4_11) ?_
    show Steps p.tables e below (T21.setTop (mkF m 12 #[.val (.int xz), .val (.int xu), .val (.int xv), .val (.int (xz - (xz / (256 : Int32)) * (256 : Int32)))] [(.int (4 : Int32)), (.int (xz - (xz / (256 : Int32)) * (256 : Int32))), (.ref ax), (.int xu)])) _
    refine XS.ishr X21.here hx rfl (hb hby d4_12) rfl ?_
    exact kt
  obtain ⟨c23, Ar23, q23, S23, M23, H23, G23⟩ := (G1.ext O0.2)
  have i23 : ¬ (((xz - (xz / (256 : Int32)) * (256 : Int32)) >>> ((4 : Int32) &&& 31)) < 0 ∨ c23.slots.size ≤ (((xz - (xz / (256 : Int32)) * (256 : Int32)) >>> ((4 : Int32) &&& 31))).toNatClampNeg) := by rw [q1]; exact own_hexsize q3 S23
  have t23 : c23.slots[(((xz - (xz / (256 : Int32)) * (256 : Int32)) >>> ((4 : Int32) &&& 31))).toNatClampNeg]? = some (.int (own_hexUp hi)) := Has.at H23 i23 (by rw [q1]; exact own_hexat q3)
  have pre25 : ∀ t, Steps p.tables e below (T21.setTop (mkF m 34 #[.val (.int xz), .val (.int xu), .val (.int xv), .val (.int (xz - (xz / (256 : Int32)) * (256 : Int32)))] [(.int (0 : Int32))])) t → Steps p.tables e below (s₁.setTop (entryFrame m #[(.int xz), (.int xu), (.int xv)] 4)) t := fun t kt => by
    refine pre24 _ ?_
    show Steps p.tables e below (T21.setTop (mkF m 13 #[.val (.int xz), .val (.int xu), .val (.int xv), .val (.int (xz - (xz / (256 : Int32)) * (256 : Int32)))] [(.int ((xz - (xz / (256 : Int32)) * (256 : Int32)) >>> ((4 : Int32) &&& 31))), (.ref ax), (.int xu)])) _
    refine X21.caload hx (j := ((xz - (xz / (256 : Int32)) * (256 : Int32)) >>> ((4 : Int32) &&& 31))) (v := (.int (own_hexUp hi))) (by rw [e21]; exact Ar23.1) (State.isArrayOf_alike hZ.alike Ar23.2.1) Ar23.2.2 i23 t23 (g := (mkF m 13 #[.val (.int xz), .val (.int xu), .val (.int xv), .val (.int (xz - (xz / (256 : Int32)) * (256 : Int32)))] [(.int ((xz - (xz / (256 : Int32)) * (256 : Int32)) >>> ((4 : Int32) &&& 31))), (.ref ax), (.int xu)])) rfl rfl (hb hby d4_13) _ ?_
    show Steps p.tables e below (T21.setTop (mkF m 14 #[.val (.int xz), .val (.int xu), .val (.int xv), .val (.int (xz - (xz / (256 : Int32)) * (256 : Int32)))] [(.int (own_hexUp hi)), (.int xu)])) _
    refine XS.icmpYes X21.here hx rfl (pc0 := 14) (pc' := 33) rfl (hb hby d4_14) rfl (XT.ii_ne_t q5) (by decide) (by decide) ?_
    show Steps p.tables e below (T21.setTop (mkF m 33 #[.val (.int xz), .val (.int xu), .val (.int xv), .val (.int (xz - (xz / (256 : Int32)) * (256 : Int32)))] [])) _
    refine XS.iconst X21.here hx rfl (hb hby d4_33) ?_
    exact kt
  obtain ⟨fs, hr, hrun, hended, hW, hsame⟩ := X21.leave (v := some (.int (0 : Int32))) (fun h => by rw [Bd.returns] at h; cases h)
  refine ⟨_, _, pre25 _ (retN X21 hx (t := .boolean) Bd.returns (by simp) (hb hby d4_34) hr), hrun, hended, _, _, rfl, ?_, ⟨_, rfl⟩, hW, hsame.mono (by decide) (by decide)⟩
  show Q_ck0 Z xz xu xv hi lo ax kx h0 n0 _ T21.heap _
  rw [e21]
  exact ⟨rfl, N0, rfl⟩
theorem d4_17 : decode prog_32_method_3_code 17 = .ok (.iload_n 2, 1) := by decide +kernel
theorem d4_18 : decode prog_32_method_3_code 18 = .ok (.getstatic 9, 3) := by decide +kernel
theorem d4_21 : decode prog_32_method_3_code 21 = .ok (.iload_n 3, 1) := by decide +kernel
theorem d4_22 : decode prog_32_method_3_code 22 = .ok (.bipush 15, 2) := by decide +kernel
theorem d4_24 : decode prog_32_method_3_code 24 = .ok (.iand, 1) := by decide +kernel
theorem d4_25 : decode prog_32_method_3_code 25 = .ok (.caload, 1) := by decide +kernel
theorem d4_26 : decode prog_32_method_3_code 26 = .ok (.if_icmp .ne 7, 3) := by decide +kernel
def Q_ck1 (Z : State) (xz : Int32) (xu : Int32) (xv : Int32) (hi : Int32) (lo : Int32) (ax : Addr) (kx : ClassId) (h0 : Heap) (n0 : Nat) (v : Option Value) (h : Heap) (L : List Loc) : Prop := v = some (.int (0 : Int32)) ∧ Fr n0 L ∧ h = h0
set_option maxRecDepth 65536 in
set_option maxHeartbeats 40000000 in
theorem rm_ck1 (l : Launch) (Z : State) (a0 : Array Value) (hw : ∀ d ∈ tables_1, d.before a0 Z = true) (ws : List Jvm.Cond) (xz : Int32) (xu : Int32) (xv : Int32) (hi : Int32) (lo : Int32) (ax : Addr) (kx : ClassId) (h0 : Heap) (n0 : Nat) (O0 : Old Z n0 h0) (G0 : Sta Z Z.heap "com/example/hemawire/hemawire/lis/LinkCodes" "HEX_DIGITS" "[C" (.ref ax)) (G1 : Arv Z Z.heap ax kx .char (16 : Int32) [(.int (48 : Int32)), (.int (49 : Int32)), (.int (50 : Int32)), (.int (51 : Int32)), (.int (52 : Int32)), (.int (53 : Int32)), (.int (54 : Int32)), (.int (55 : Int32)), (.int (56 : Int32)), (.int (57 : Int32)), (.int (65 : Int32)), (.int (66 : Int32)), (.int (67 : Int32)), (.int (68 : Int32)), (.int (69 : Int32)), (.int (70 : Int32))] (.int (0 : Int32))) (q1 : ((xz - (xz / (256 : Int32)) * (256 : Int32)) >>> ((4 : Int32) &&& 31)) = hi) (q2 : ((xz - (xz / (256 : Int32)) * (256 : Int32)) &&& (15 : Int32)) = lo) (q3 : own_in hi) (q4 : own_in lo) (q5 : xu = (own_hexUp hi)) (q6 : ¬ (xv = (own_hexUp lo))) :
    MetFree l (⟨"com/example/hemawire/hemawire/lis/LinkCodes", "isChecksum", "(III)Z"⟩ : MethodName) (head1 (Jvm.Cond.code (⟨"com/example/hemawire/hemawire/lis/LinkCodes", "isChecksum", "(III)Z"⟩ : MethodName) prog_32_method_3_code 4 (some .boolean) :: ws) ({ frames := 0, cells := 0, slots := 0, locals := 0 } : Room)) (fun a U => a = #[(.int xz), (.int xu), (.int xv)] ∧ Z.Warmed39 U.vm ∧ U.heap = h0) (fun _ _ _ _ _ => True) (fun _ U o U' => ∃ v L, o = .returned v ∧ Q_ck1 Z xz xu xv hi lo ax kx h0 n0 v U'.heap L ∧ FrameEnd U o U' L ({ frames := 0, cells := 0, slots := 0, locals := 0 } : Room).cells ({ frames := 0, cells := 0, slots := 0, locals := 0 } : Room).slots) := by
  refine MetFree.of_bodySF (plainFor_of_name pn_5) hisR ?_
  intro p e s m args below meth c s₁ Bd hml0 hP hK
  obtain ⟨rfl, hZ, hh⟩ := hP
  have hx := Bd.exec
  have hby := Bd.bytes
  have hml : c.maxLocals = 4 := hml0
  have hown : s.vm.findClass "com/example/hemawire/hemawire/lis/LinkCodes" = some m.cls := findClass_of_methodNamed Bd.named
  have hnm := (name_of_methodNamed Bd.named Bd.method).1
  have X0 : Stand p l e ({ frames := 0, cells := 0, slots := 0, locals := 0 } : Room) s m #[(.int xz), (.int xu), (.int xv)] below meth c s₁ [] 0 0 := Stand.of_body Bd
  have e0 : s₁.heap = h0 := by rw [← hh, Bd.state]; rfl
  have N0 := Fr.nil n0
  have pre0 : ∀ t, Steps p.tables e below (s₁.setTop (mkF m 0 #[.val (.int xz), .val (.int xu), .val (.int xv), .unset] [])) t → Steps p.tables e below (s₁.setTop (entryFrame m #[(.int xz), (.int xu), (.int xv)] 4)) t := fun t k => castTop (ef_6 m xz xu xv) k
  have K0 : Keep h0 h0 [] := Keep.refl h0 []
  have pre26 : ∀ t, Steps p.tables e below (s₁.setTop (mkF m 7 #[.val (.int xz), .val (.int xu), .val (.int xv), .val (.int (xz - (xz / (256 : Int32)) * (256 : Int32)))] [(.int xu)])) t → Steps p.tables e below (s₁.setTop (entryFrame m #[(.int xz), (.int xu), (.int xv)] 4)) t := fun t kt => by
    refine pre0 _ ?_
    show Steps p.tables e below (s₁.setTop (mkF m 0 #[.val (.int xz), .val (.int xu), .val (.int xv), .unset] [])) _
    refine XS.iloadN X0.here hx rfl (hb hby d4_0) rfl ?_
    show Steps p.tables e below (s₁.setTop (mkF m 1 #[.val (.int xz), .val (.int xu), .val (.int xv), .unset] [(.int xz)])) _
    refine XS.sipush X0.here hx rfl (hb hby d4_1) ?_
    show Steps p.tables e below (s₁.setTop (mkF m 4 #[.val (.int xz), .val (.int xu), .val (.int xv), .unset] [(.int (256 : Int32)), (.int xz)])) _
    refine XS.irem X0.here hx rfl (hb hby d4_4) rfl (by decide) ?_
    show Steps p.tables e below (s₁.setTop (mkF m 5 #[.val (.int xz), .val (.int xu), .val (.int xv), .unset] [(.int (xz - (xz / (256 : Int32)) * (256 : Int32)))])) _
    refine XS.istoreN X0.here hx rfl (hb hby d4_5) rfl (l' := #[.val (.int xz), .val (.int xu), .val (.int xv), .val (.int (xz - (xz / (256 : Int32)) * (256 : Int32)))]) rfl ?_
    show Steps p.tables e below (s₁.setTop (mkF m 6 #[.val (.int xz), .val (.int xu), .val (.int xv), .val (.int (xz - (xz / (256 : Int32)) * (256 : Int32)))] [])) _
    refine XS.iloadN X0.here hx rfl (hb hby d4_6) rfl ?_
    exact kt
  obtain ⟨T27, X27, e27, st27⟩ := getS2 X0 hx hZ hown (host := "") (Or.inl (hw _ (List.mem_of_getElem? (i := 15) rfl))) Via.refl e0 (G0.ext O0.2) (g := (mkF m 7 #[.val (.int xz), .val (.int xu), .val (.int xv), .val (.int (xz - (xz / (256 : Int32)) * (256 : Int32)))] [(.int xu)])) rfl (hb hby d4_7)
  have pre28 : ∀ t, Steps p.tables e below (T27.setTop (mkF m 10 #[.val (.int xz), .val (.int xu), .val (.int xv), .val (.int (xz - (xz / (256 : Int32)) * (256 : Int32)))] [(.ref ax), (.int xu)])) t → Steps p.tables e below (s₁.setTop (entryFrame m #[(.int xz), (.int xu), (.int xv)] 4)) t := fun t kt => pre26 _ (st27 _ kt)
  have pre30 : ∀ t, Steps p.tables e below (T27.setTop (mkF m 13 #[.val (.int xz), .val (.int xu), .val (.int xv), .val (.int (xz - (xz / (256 : Int32)) * (256 : Int32)))] [(.int ((xz - (xz / (256 : Int32)) * (256 : Int32)) >>> ((4 : Int32) &&& 31))), (.ref ax), (.int xu)])) t → Steps p.tables e below (s₁.setTop (entryFrame m #[(.int xz), (.int xu), (.int xv)] 4)) t := fun t kt => by
    refine pre28 _ ?_
    show Steps p.tables e below (T27.setTop (mkF m 10 #[.val (.int xz), .val (.int xu), .val (.int xv), .val (.int (xz - (xz / (256 : Int32)) * (256 : Int32)))] [(.ref ax), (.int xu)])) _
    refine XS.iloadN X27.here hx rfl (hb hby d4_10) rfl ?_
    show Steps p.tables e below (T27.setTop (mkF m 11 #[.val (.int xz), .val (.int xu), .val (.int xv), .val (.int (xz - (xz / (256 : Int32)) * (256 : Int32)))] [(.int (xz - (xz / (256 : Int32)) * (256 : Int32))), (.ref ax), (.int xu)])) _
    refine XS.iconst X27.here hx rfl (hb hby d4_11) ?_
    show Steps p.tables e below (T27.setTop (mkF m 12 #[.val (.int xz), .val (.int xu), .val (.int xv), .val (.int (xz - (xz / (256 : Int32)) * (256 : Int32)))] [(.int (4 : Int32)), (.int (xz - (xz / (256 : Int32)) * (256 : Int32))), (.ref ax), (.int xu)])) _
    refine XS.ishr X27.here hx rfl (hb hby d4_12) rfl ?_
    exact kt
  obtain ⟨c29, Ar29, q29, S29, M29, H29, G29⟩ := (G1.ext O0.2)
  have i29 : ¬ (((xz - (xz / (256 : Int32)) * (256 : Int32)) >>> ((4 : Int32) &&& 31)) < 0 ∨ c29.slots.size ≤ (((xz - (xz / (256 : Int32)) * (256 : Int32)) >>> ((4 : Int32) &&& 31))).toNatClampNeg) := by rw [q1]; exact own_hexsize q3 S29
  have t29 : c29.slots[(((xz - (xz / (256 : Int32)) * (256 : Int32)) >>> ((4 : Int32) &&& 31))).toNatClampNeg]? = some (.int (own_hexUp hi)) := Has.at H29 i29 (by rw [q1]; exact own_hexat q3)
  have pre31 : ∀ t, Steps p.tables e below (T27.setTop (mkF m 18 #[.val (.int xz), .val (.int xu), .val (.int xv), .val (.int (xz - (xz / (256 : Int32)) * (256 : Int32)))] [(.int xv)])) t → Steps p.tables e below (s₁.setTop (entryFrame m #[(.int xz), (.int xu), (.int xv)] 4)) t := fun t kt => by
    refine pre30 _ ?_
    show Steps p.tables e below (T27.setTop (mkF m 13 #[.val (.int xz), .val (.int xu), .val (.int xv), .val (.int (xz - (xz / (256 : Int32)) * (256 : Int32)))] [(.int ((xz - (xz / (256 : Int32)) * (256 : Int32)) >>> ((4 : Int32) &&& 31))), (.ref ax), (.int xu)])) _
    refine X27.caload hx (j := ((xz - (xz / (256 : Int32)) * (256 : Int32)) >>> ((4 : Int32) &&& 31))) (v := (.int (own_hexUp hi))) (by rw [e27]; exact Ar29.1) (State.isArrayOf_alike hZ.alike Ar29.2.1) Ar29.2.2 i29 t29 (g := (mkF m 13 #[.val (.int xz), .val (.int xu), .val (.int xv), .val (.int (xz - (xz / (256 : Int32)) * (256 : Int32)))] [(.int ((xz - (xz / (256 : Int32)) * (256 : Int32)) >>> ((4 : Int32) &&& 31))), (.ref ax), (.int xu)])) rfl rfl (hb hby d4_13) _ ?_
    show Steps p.tables e below (T27.setTop (mkF m 14 #[.val (.int xz), .val (.int xu), .val (.int xv), .val (.int (xz - (xz / (256 : Int32)) * (256 : Int32)))] [(.int (own_hexUp hi)), (.int xu)])) _
    refine XS.icmpNo X27.here hx rfl (hb hby d4_14) rfl (XT.ii_ne_f q5) ?_
    show Steps p.tables e below (T27.setTop (mkF m 17 #[.val (.int xz), .val (.int xu), .val (.int xv), .val (.int (xz - (xz / (256 : Int32)) * (256 : Int32)))] [])) _
    refine XS.iloadN X27.here hx rfl (hb hby d4_17) rfl ?_
    exact kt
  obtain ⟨T32, X32, e32, st32⟩ := getS2 X27 hx hZ hown (host := "") (Or.inl (hw _ (List.mem_of_getElem? (i := 15) rfl))) Via.refl e27 (G0.ext O0.2) (g := (mkF m 18 #[.val (.int xz), .val (.int xu), .val (.int xv), .val (.int (xz - (xz / (256 : Int32)) * (256 : Int32)))] [(.int xv)])) rfl (hb hby d4_18)
  have pre33 : ∀ t, Steps p.tables e below (T32.setTop (mkF m 21 #[.val (.int xz), .val (.int xu), .val (.int xv), .val (.int (xz - (xz / (256 : Int32)) * (256 : Int32)))] [(.ref ax), (.int xv)])) t → Steps p.tables e below (s₁.setTop (entryFrame m #[(.int xz), (.int xu), (.int xv)] 4)) t := fun t kt => pre31 _ (st32 _ kt)
  have pre35 : ∀ t, Steps p.tables e below (T32.setTop (mkF m 25 #[.val (.int xz), .val (.int xu), .val (.int xv), .val (.int (xz - (xz / (256 : Int32)) * (256 : Int32)))] [(.int ((xz - (xz / (256 : Int32)) * (256 : Int32)) &&& (15 : Int32))), (.ref ax), (.int xv)])) t → Steps p.tables e below (s₁.setTop (entryFrame m #[(.int xz), (.int xu), (.int xv)] 4)) t := fun t kt => by
    refine pre33 _ ?_
    show Steps p.tables e below (T32.setTop (mkF m 21 #[.val (.int xz), .val (.int xu), .val (.int xv), .val (.int (xz - (xz / (256 : Int32)) * (256 : Int32)))] [(.ref ax), (.int xv)])) _
    refine XS.iloadN X32.here hx rfl (hb hby d4_21) rfl ?_
    show Steps p.tables e below (T32.setTop (mkF m 22 #[.val (.int xz), .val (.int xu), .val (.int xv), .val (.int (xz - (xz / (256 : Int32)) * (256 : Int32)))] [(.int (xz - (xz / (256 : Int32)) * (256 : Int32))), (.ref ax), (.int xv)])) _
    refine XS.bipush X32.here hx rfl (hb hby d4_22) ?_
    show Steps p.tables e below (T32.setTop (mkF m 24 #[.val (.int xz), .val (.int xu), .val (.int xv), .val (.int (xz - (xz / (256 : Int32)) * (256 : Int32)))] [(.int (15 : Int32)), (.int (xz - (xz / (256 : Int32)) * (256 : Int32))), (.ref ax), (.int xv)])) _
    refine XS.iand X32.here hx rfl (hb hby d4_24) rfl ?_
    exact kt
  obtain ⟨c34, Ar34, q34, S34, M34, H34, G34⟩ := (G1.ext O0.2)
  have i34 : ¬ (((xz - (xz / (256 : Int32)) * (256 : Int32)) &&& (15 : Int32)) < 0 ∨ c34.slots.size ≤ (((xz - (xz / (256 : Int32)) * (256 : Int32)) &&& (15 : Int32))).toNatClampNeg) := by rw [q2]; exact own_hexsize q4 S34
  have t34 : c34.slots[(((xz - (xz / (256 : Int32)) * (256 : Int32)) &&& (15 : Int32))).toNatClampNeg]? = some (.int (own_hexUp lo)) := Has.at H34 i34 (by rw [q2]; exact own_hexat q4)
  have pre36 : ∀ t, Steps p.tables e below (T32.setTop (mkF m 34 #[.val (.int xz), .val (.int xu), .val (.int xv), .val (.int (xz - (xz / (256 : Int32)) * (256 : Int32)))] [(.int (0 : Int32))])) t → Steps p.tables e below (s₁.setTop (entryFrame m #[(.int xz), (.int xu), (.int xv)] 4)) t := fun t kt => by
    refine pre35 _ ?_
    show Steps p.tables e below (T32.setTop (mkF m 25 #[.val (.int xz), .val (.int xu), .val (.int xv), .val (.int (xz - (xz / (256 : Int32)) * (256 : Int32)))] [(.int ((xz - (xz / (256 : Int32)) * (256 : Int32)) &&& (15 : Int32))), (.ref ax), (.int xv)])) _
    refine X32.caload hx (j := ((xz - (xz / (256 : Int32)) * (256 : Int32)) &&& (15 : Int32))) (v := (.int (own_hexUp lo))) (by rw [e32]; exact Ar34.1) (State.isArrayOf_alike hZ.alike Ar34.2.1) Ar34.2.2 i34 t34 (g := (mkF m 25 #[.val (.int xz), .val (.int xu), .val (.int xv), .val (.int (xz - (xz / (256 : Int32)) * (256 : Int32)))] [(.int ((xz - (xz / (256 : Int32)) * (256 : Int32)) &&& (15 : Int32))), (.ref ax), (.int xv)])) rfl rfl (hb hby d4_25) _ ?_
    show Steps p.tables e below (T32.setTop (mkF m 26 #[.val (.int xz), .val (.int xu), .val (.int xv), .val (.int (xz - (xz / (256 : Int32)) * (256 : Int32)))] [(.int (own_hexUp lo)), (.int xv)])) _
    refine XS.icmpYes X32.here hx rfl (pc0 := 26) (pc' := 33) rfl (hb hby d4_26) rfl (XT.ii_ne_t q6) (by decide) (by decide) ?_
    show Steps p.tables e below (T32.setTop (mkF m 33 #[.val (.int xz), .val (.int xu), .val (.int xv), .val (.int (xz - (xz / (256 : Int32)) * (256 : Int32)))] [])) _
    refine XS.iconst X32.here hx rfl (hb hby d4_33) ?_
    exact kt
  obtain ⟨fs, hr, hrun, hended, hW, hsame⟩ := X32.leave (v := some (.int (0 : Int32))) (fun h => by rw [Bd.returns] at h; cases h)
  refine ⟨_, _, pre36 _ (retN X32 hx (t := .boolean) Bd.returns (by simp) (hb hby d4_34) hr), hrun, hended, _, _, rfl, ?_, ⟨_, rfl⟩, hW, hsame.mono (by decide) (by decide)⟩
  show Q_ck1 Z xz xu xv hi lo ax kx h0 n0 _ T32.heap _
  rw [e32]
  exact ⟨rfl, N0, rfl⟩
theorem d4_29 : decode prog_32_method_3_code 29 = .ok (.iconst 1, 1) := by decide +kernel
theorem d4_30 : decode prog_32_method_3_code 30 = .ok (.goto 4, 3) := by decide +kernel
def Q_ck2 (Z : State) (xz : Int32) (xu : Int32) (xv : Int32) (hi : Int32) (lo : Int32) (ax : Addr) (kx : ClassId) (h0 : Heap) (n0 : Nat) (v : Option Value) (h : Heap) (L : List Loc) : Prop := v = some (.int (1 : Int32)) ∧ Fr n0 L ∧ h = h0
set_option maxRecDepth 65536 in
set_option maxHeartbeats 40000000 in
theorem rm_ck2 (l : Launch) (Z : State) (a0 : Array Value) (hw : ∀ d ∈ tables_1, d.before a0 Z = true) (ws : List Jvm.Cond) (xz : Int32) (xu : Int32) (xv : Int32) (hi : Int32) (lo : Int32) (ax : Addr) (kx : ClassId) (h0 : Heap) (n0 : Nat) (O0 : Old Z n0 h0) (G0 : Sta Z Z.heap "com/example/hemawire/hemawire/lis/LinkCodes" "HEX_DIGITS" "[C" (.ref ax)) (G1 : Arv Z Z.heap ax kx .char (16 : Int32) [(.int (48 : Int32)), (.int (49 : Int32)), (.int (50 : Int32)), (.int (51 : Int32)), (.int (52 : Int32)), (.int (53 : Int32)), (.int (54 : Int32)), (.int (55 : Int32)), (.int (56 : Int32)), (.int (57 : Int32)), (.int (65 : Int32)), (.int (66 : Int32)), (.int (67 : Int32)), (.int (68 : Int32)), (.int (69 : Int32)), (.int (70 : Int32))] (.int (0 : Int32))) (q1 : ((xz - (xz / (256 : Int32)) * (256 : Int32)) >>> ((4 : Int32) &&& 31)) = hi) (q2 : ((xz - (xz / (256 : Int32)) * (256 : Int32)) &&& (15 : Int32)) = lo) (q3 : own_in hi) (q4 : own_in lo) (q5 : xu = (own_hexUp hi)) (q6 : xv = (own_hexUp lo)) :
    MetFree l (⟨"com/example/hemawire/hemawire/lis/LinkCodes", "isChecksum", "(III)Z"⟩ : MethodName) (head1 (Jvm.Cond.code (⟨"com/example/hemawire/hemawire/lis/LinkCodes", "isChecksum", "(III)Z"⟩ : MethodName) prog_32_method_3_code 4 (some .boolean) :: ws) ({ frames := 0, cells := 0, slots := 0, locals := 0 } : Room)) (fun a U => a = #[(.int xz), (.int xu), (.int xv)] ∧ Z.Warmed39 U.vm ∧ U.heap = h0) (fun _ _ _ _ _ => True) (fun _ U o U' => ∃ v L, o = .returned v ∧ Q_ck2 Z xz xu xv hi lo ax kx h0 n0 v U'.heap L ∧ FrameEnd U o U' L ({ frames := 0, cells := 0, slots := 0, locals := 0 } : Room).cells ({ frames := 0, cells := 0, slots := 0, locals := 0 } : Room).slots) := by
  refine MetFree.of_bodySF (plainFor_of_name pn_5) hisR ?_
  intro p e s m args below meth c s₁ Bd hml0 hP hK
  obtain ⟨rfl, hZ, hh⟩ := hP
  have hx := Bd.exec
  have hby := Bd.bytes
  have hml : c.maxLocals = 4 := hml0
  have hown : s.vm.findClass "com/example/hemawire/hemawire/lis/LinkCodes" = some m.cls := findClass_of_methodNamed Bd.named
  have hnm := (name_of_methodNamed Bd.named Bd.method).1
  have X0 : Stand p l e ({ frames := 0, cells := 0, slots := 0, locals := 0 } : Room) s m #[(.int xz), (.int xu), (.int xv)] below meth c s₁ [] 0 0 := Stand.of_body Bd
  have e0 : s₁.heap = h0 := by rw [← hh, Bd.state]; rfl
  have N0 := Fr.nil n0
  have pre0 : ∀ t, Steps p.tables e below (s₁.setTop (mkF m 0 #[.val (.int xz), .val (.int xu), .val (.int xv), .unset] [])) t → Steps p.tables e below (s₁.setTop (entryFrame m #[(.int xz), (.int xu), (.int xv)] 4)) t := fun t k => castTop (ef_6 m xz xu xv) k
  have K0 : Keep h0 h0 [] := Keep.refl h0 []
  have pre37 : ∀ t, Steps p.tables e below (s₁.setTop (mkF m 7 #[.val (.int xz), .val (.int xu), .val (.int xv), .val (.int (xz - (xz / (256 : Int32)) * (256 : Int32)))] [(.int xu)])) t → Steps p.tables e below (s₁.setTop (entryFrame m #[(.int xz), (.int xu), (.int xv)] 4)) t := fun t kt => by
    refine pre0 _ ?_
    show Steps p.tables e below (s₁.setTop (mkF m 0 #[.val (.int xz), .val (.int xu), .val (.int xv), .unset] [])) _
    refine XS.iloadN X0.here hx rfl (hb hby d4_0) rfl ?_
    show Steps p.tables e below (s₁.setTop (mkF m 1 #[.val (.int xz), .val (.int xu), .val (.int xv), .unset] [(.int xz)])) _
    refine XS.sipush X0.here hx rfl (hb hby d4_1) ?_
    show Steps p.tables e below (s₁.setTop (mkF m 4 #[.val (.int xz), .val (.int xu), .val (.int xv), .unset] [(.int (256 : Int32)), (.int xz)])) _
    refine XS.irem X0.here hx rfl (hb hby d4_4) rfl (by decide) ?_
    show Steps p.tables e below (s₁.setTop (mkF m 5 #[.val (.int xz), .val (.int xu), .val (.int xv), .unset] [(.int (xz - (xz / (256 : Int32)) * (256 : Int32)))])) _
    refine XS.istoreN X0.here hx rfl (hb hby d4_5) rfl (l' := #[.val (.int xz), .val (.int xu), .val (.int xv), .val (.int (xz - (xz / (256 : Int32)) * (256 : Int32)))]) rfl ?_
    show Steps p.tables e below (s₁.setTop (mkF m 6 #[.val (.int xz), .val (.int xu), .val (.int xv), .val (.int (xz - (xz / (256 : Int32)) * (256 : Int32)))] [])) _
    refine XS.iloadN X0.here hx rfl (hb hby d4_6) rfl ?_
    exact kt
  obtain ⟨T38, X38, e38, st38⟩ := getS2 X0 hx hZ hown (host := "") (Or.inl (hw _ (List.mem_of_getElem? (i := 15) rfl))) Via.refl e0 (G0.ext O0.2) (g := (mkF m 7 #[.val (.int xz), .val (.int xu), .val (.int xv), .val (.int (xz - (xz / (256 : Int32)) * (256 : Int32)))] [(.int xu)])) rfl (hb hby d4_7)
  have pre39 : ∀ t, Steps p.tables e below (T38.setTop (mkF m 10 #[.val (.int xz), .val (.int xu), .val (.int xv), .val (.int (xz - (xz / (256 : Int32)) * (256 : Int32)))] [(.ref ax), (.int xu)])) t → Steps p.tables e below (s₁.setTop (entryFrame m #[(.int xz), (.int xu), (.int xv)] 4)) t := fun t kt => pre37 _ (st38 _ kt)
  have pre41 : ∀ t, Steps p.tables e below (T38.setTop (mkF m 13 #[.val (.int xz), .val (.int xu), .val (.int xv), .val (.int (xz - (xz / (256 : Int32)) * (256 : Int32)))] [(.int ((xz - (xz / (256 : Int32)) * (256 : Int32)) >>> ((4 : Int32) &&& 31))), (.ref ax), (.int xu)])) t → Steps p.tables e below (s₁.setTop (entryFrame m #[(.int xz), (.int xu), (.int xv)] 4)) t := fun t kt => by
    refine pre39 _ ?_
    show Steps p.tables e below (T38.setTop (mkF m 10 #[.val (.int xz), .val (.int xu), .val (.int xv), .val (.int (xz - (xz / (256 : Int32)) * (256 : Int32)))] [(.ref ax), (.int xu)])) _
    refine XS.iloadN X38.here hx rfl (hb hby d4_10) rfl ?_
    show Steps p.tables e below (T38.setTop (mkF m 11 #[.val (.int xz), .val (.int xu), .val (.int xv), .val (.int (xz - (xz / (256 : Int32)) * (256 : Int32)))] [(.int (xz - (xz / (256 : Int32)) * (256 : Int32))), (.ref ax), (.int xu)])) _
    refine XS.iconst X38.here hx rfl (hb hby d4_11) ?_
    show Steps p.tables e below (T38.setTop (mkF m 12 #[.val (.int xz), .val (.int xu), .val (.int xv), .val (.int (xz - (xz / (256 : Int32)) * (256 : Int32)))] [(.int (4 : Int32)), (.int (xz - (xz / (256 : Int32)) * (256 : Int32))), (.ref ax), (.int xu)])) _
    refine XS.ishr X38.here hx rfl (hb hby d4_12) rfl ?_
    exact kt
  obtain ⟨c40, Ar40, q40, S40, M40, H40, G40⟩ := (G1.ext O0.2)
  have i40 : ¬ (((xz - (xz / (256 : Int32)) * (256 : Int32)) >>> ((4 : Int32) &&& 31)) < 0 ∨ c40.slots.size ≤ (((xz - (xz / (256 : Int32)) * (256 : Int32)) >>> ((4 : Int32) &&& 31))).toNatClampNeg) := by rw [q1]; exact own_hexsize q3 S40
  have t40 : c40.slots[(((xz - (xz / (256 : Int32)) * (256 : Int32)) >>> ((4 : Int32) &&& 31))).toNatClampNeg]? = some (.int (own_hexUp hi)) := Has.at H40 i40 (by rw [q1]; exact own_hexat q3)
  have pre42 : ∀ t, Steps p.tables e below (T38.setTop (mkF m 18 #[.val (.int xz), .val (.int xu), .val (.int xv), .val (.int (xz - (xz / (256 : Int32)) * (256 : Int32)))] [(.int xv)])) t → Steps p.tables e below (s₁.setTop (entryFrame m #[(.int xz), (.int xu), (.int xv)] 4)) t := fun t kt => by
    refine pre41 _ ?_
    show Steps p.tables e below (T38.setTop (mkF m 13 #[.val (.int xz), .val (.int xu), .val (.int xv), .val (.int (xz - (xz / (256 : Int32)) * (256 : Int32)))] [(.int ((xz - (xz / (256 : Int32)) * (256 : Int32)) >>> ((4 : Int32) &&& 31))), (.ref ax), (.int xu)])) _
    refine X38.caload hx (j := ((xz - (xz / (256 : Int32)) * (256 : Int32)) >>> ((4 : Int32) &&& 31))) (v := (.int (own_hexUp hi))) (by rw [e38]; exact Ar40.1) (State.isArrayOf_alike hZ.alike Ar40.2.1) Ar40.2.2 i40 t40 (g := (mkF m 13 #[.val (.int xz), .val (.int xu), .val (.int xv), .val (.int (xz - (xz / (256 : Int32)) * (256 : Int32)))] [(.int ((xz - (xz / (256 : Int32)) * (256 : Int32)) >>> ((4 : Int32) &&& 31))), (.ref ax), (.int xu)])) rfl rfl (hb hby d4_13) _ ?_
    show Steps p.tables e below (T38.setTop (mkF m 14 #[.val (.int xz), .val (.int xu), .val (.int xv), .val (.int (xz - (xz / (256 : Int32)) * (256 : Int32)))] [(.int (own_hexUp hi)), (.int xu)])) _
    refine XS.icmpNo X38.here hx rfl (hb hby d4_14) rfl (XT.ii_ne_f q5) ?_
    show Steps p.tables e below (T38.setTop (mkF m 17 #[.val (.int xz), .val (.int xu), .val (.int xv), .val (.int (xz - (xz / (256 : Int32)) * (256 : Int32)))] [])) _
    refine XS.iloadN X38.here hx rfl (hb hby d4_17) rfl ?_
    exact kt
  obtain ⟨T43, X43, e43, st43⟩ := getS2 X38 hx hZ hown (host := "") (Or.inl (hw _ (List.mem_of_getElem? (i := 15) rfl))) Via.refl e38 (G0.ext O0.2) (g := (mkF m 18 #[.val (.int xz), .val (.int xu), .val (.int xv), .val (.int (xz - (xz / (256 : Int32)) * (256 : Int32)))] [(.int xv)])) rfl (hb hby d4_18)
  have pre44 : ∀ t, Steps p.tables e below (T43.setTop (mkF m 21 #[.val (.int xz), .val (.int xu), .val (.int xv), .val (.int (xz - (xz / (256 : Int32)) * (256 : Int32)))] [(.ref ax), (.int xv)])) t → Steps p.tables e below (s₁.setTop (entryFrame m #[(.int xz), (.int xu), (.int xv)] 4)) t := fun t kt => pre42 _ (st43 _ kt)
  have pre46 : ∀ t, Steps p.tables e below (T43.setTop (mkF m 25 #[.val (.int xz), .val (.int xu), .val (.int xv), .val (.int (xz - (xz / (256 : Int32)) * (256 : Int32)))] [(.int ((xz - (xz / (256 : Int32)) * (256 : Int32)) &&& (15 : Int32))), (.ref ax), (.int xv)])) t → Steps p.tables e below (s₁.setTop (entryFrame m #[(.int xz), (.int xu), (.int xv)] 4)) t := fun t kt => by
    refine pre44 _ ?_
    show Steps p.tables e below (T43.setTop (mkF m 21 #[.val (.int xz), .val (.int xu), .val (.int xv), .val (.int (xz - (xz / (256 : Int32)) * (256 : Int32)))] [(.ref ax), (.int xv)])) _
    refine XS.iloadN X43.here hx rfl (hb hby d4_21) rfl ?_
    show Steps p.tables e below (T43.setTop (mkF m 22 #[.val (.int xz), .val (.int xu), .val (.int xv), .val (.int (xz - (xz / (256 : Int32)) * (256 : Int32)))] [(.int (xz - (xz / (256 : Int32)) * (256 : Int32))), (.ref ax), (.int xv)])) _
    refine XS.bipush X43.here hx rfl (hb hby d4_22) ?_
    show Steps p.tables e below (T43.setTop (mkF m 24 #[.val (.int xz), .val (.int xu), .val (.int xv), .val (.int (xz - (xz / (256 : Int32)) * (256 : Int32)))] [(.int (15 : Int32)), (.int (xz - (xz / (256 : Int32)) * (256 : Int32))), (.ref ax), (.int xv)])) _
    refine XS.iand X43.here hx rfl (hb hby d4_24) rfl ?_
    exact kt
  obtain ⟨c45, Ar45, q45, S45, M45, H45, G45⟩ := (G1.ext O0.2)
  have i45 : ¬ (((xz - (xz / (256 : Int32)) * (256 : Int32)) &&& (15 : Int32)) < 0 ∨ c45.slots.size ≤ (((xz - (xz / (256 : Int32)) * (256 : Int32)) &&& (15 : Int32))).toNatClampNeg) := by rw [q2]; exact own_hexsize q4 S45
  have t45 : c45.slots[(((xz - (xz / (256 : Int32)) * (256 : Int32)) &&& (15 : Int32))).toNatClampNeg]? = some (.int (own_hexUp lo)) := Has.at H45 i45 (by rw [q2]; exact own_hexat q4)
  have pre47 : ∀ t, Steps p.tables e below (T43.setTop (mkF m 34 #[.val (.int xz), .val (.int xu), .val (.int xv), .val (.int (xz - (xz / (256 : Int32)) * (256 : Int32)))] [(.int (1 : Int32))])) t → Steps p.tables e below (s₁.setTop (entryFrame m #[(.int xz), (.int xu), (.int xv)] 4)) t := fun t kt => by
    refine pre46 _ ?_
    show Steps p.tables e below (T43.setTop (mkF m 25 #[.val (.int xz), .val (.int xu), .val (.int xv), .val (.int (xz - (xz / (256 : Int32)) * (256 : Int32)))] [(.int ((xz - (xz / (256 : Int32)) * (256 : Int32)) &&& (15 : Int32))), (.ref ax), (.int xv)])) _
    refine X43.caload hx (j := ((xz - (xz / (256 : Int32)) * (256 : Int32)) &&& (15 : Int32))) (v := (.int (own_hexUp lo))) (by rw [e43]; exact Ar45.1) (State.isArrayOf_alike hZ.alike Ar45.2.1) Ar45.2.2 i45 t45 (g := (mkF m 25 #[.val (.int xz), .val (.int xu), .val (.int xv), .val (.int (xz - (xz / (256 : Int32)) * (256 : Int32)))] [(.int ((xz - (xz / (256 : Int32)) * (256 : Int32)) &&& (15 : Int32))), (.ref ax), (.int xv)])) rfl rfl (hb hby d4_25) _ ?_
    show Steps p.tables e below (T43.setTop (mkF m 26 #[.val (.int xz), .val (.int xu), .val (.int xv), .val (.int (xz - (xz / (256 : Int32)) * (256 : Int32)))] [(.int (own_hexUp lo)), (.int xv)])) _
    refine XS.icmpNo X43.here hx rfl (hb hby d4_26) rfl (XT.ii_ne_f q6) ?_
    show Steps p.tables e below (T43.setTop (mkF m 29 #[.val (.int xz), .val (.int xu), .val (.int xv), .val (.int (xz - (xz / (256 : Int32)) * (256 : Int32)))] [])) _
    refine XS.iconst X43.here hx rfl (hb hby d4_29) ?_
    show Steps p.tables e below (T43.setTop (mkF m 30 #[.val (.int xz), .val (.int xu), .val (.int xv), .val (.int (xz - (xz / (256 : Int32)) * (256 : Int32)))] [(.int (1 : Int32))])) _
    refine XS.goto X43.here hx rfl (pc0 := 30) (pc' := 34) rfl (hb hby d4_30) (by decide) (by decide) ?_
    exact kt
  obtain ⟨fs, hr, hrun, hended, hW, hsame⟩ := X43.leave (v := some (.int (1 : Int32))) (fun h => by rw [Bd.returns] at h; cases h)
  refine ⟨_, _, pre47 _ (retN X43 hx (t := .boolean) Bd.returns (by simp) (hb hby d4_34) hr), hrun, hended, _, _, rfl, ?_, ⟨_, rfl⟩, hW, hsame.mono (by decide) (by decide)⟩
  show Q_ck2 Z xz xu xv hi lo ax kx h0 n0 _ T43.heap _
  rw [e43]
  exact ⟨rfl, N0, rfl⟩
theorem ef_7 (m : MethodId) (x0 : Int32) (x1 : Int32) (x2 : Int32) (x3 : Int32) : entryFrame m #[(.int x0), (.int x1), (.int x2), (.int x3)] maxLocals = mkF m 0 #[.val (.int x0), .val (.int x1), .val (.int x2), .val (.int x3), .unset, .unset, .unset, .unset, .unset, .unset] [] := by first | (simp [entryFrame, mkF, argsToLocals, Value.category, maxLocals]; done) | rfl
theorem pd_8 : parseMethodDescriptor "(III)I" = some ⟨[.int, .int, .int], some .int⟩ := by decide +kernel
theorem pd_9 : parseMethodDescriptor "(III)Z" = some ⟨[.int, .int, .int], some .boolean⟩ := by decide +kernel
def Q_law (Z : State) (p0 : Int32) (p1 : Int32) (p2 : Int32) (p3 : Int32) (ax : Addr) (kx : ClassId) (h0 : Heap) (n0 : Nat) (v : Option Value) (h : Heap) (L : List Loc) : Prop := v = some (.int (1 : Int32)) ∧ Fr n0 L
set_option maxRecDepth 65536 in
set_option maxHeartbeats 40000000 in
theorem rm_law (l : Launch) (Z : State) (a0 : Array Value) (hw : ∀ d ∈ tables_1, d.before a0 Z = true) (ws : List Jvm.Cond) (p0 : Int32) (p1 : Int32) (p2 : Int32) (p3 : Int32) (ax : Addr) (kx : ClassId) (h0 : Heap) (n0 : Nat) (O0 : Old Z n0 h0) (G0 : Sta Z Z.heap "com/example/hemawire/hemawire/lis/LinkCodes" "HEX_DIGITS" "[C" (.ref ax)) (G1 : Arv Z Z.heap ax kx .char (16 : Int32) [(.int (48 : Int32)), (.int (49 : Int32)), (.int (50 : Int32)), (.int (51 : Int32)), (.int (52 : Int32)), (.int (53 : Int32)), (.int (54 : Int32)), (.int (55 : Int32)), (.int (56 : Int32)), (.int (57 : Int32)), (.int (65 : Int32)), (.int (66 : Int32)), (.int (67 : Int32)), (.int (68 : Int32)), (.int (69 : Int32)), (.int (70 : Int32))] (.int (0 : Int32))) :
    MetFree l x (head1 (Jvm.Cond.code x code maxLocals ret :: ws) room_1) (fun a U => a = #[(.int p0), (.int p1), (.int p2), (.int p3)] ∧ Z.Warmed39 U.vm ∧ U.heap = h0) (fun _ _ _ _ _ => True) (fun _ U o U' => ∃ v L, o = .returned v ∧ Q_law Z p0 p1 p2 p3 ax kx h0 n0 v U'.heap L ∧ FrameEnd U o U' L room_1.cells room_1.slots) := by
  refine MetFree.of_bodySF (plainFor_of_name pn_0) hisR ?_
  intro p e s m args below meth c s₁ Bd hml0 hP hK
  obtain ⟨rfl, hZ, hh⟩ := hP
  have hx := Bd.exec
  have hby := Bd.bytes
  have hml : c.maxLocals = 10 := hml0
  have hown : s.vm.findClass "com/example/hemawire/hemawire/lis/LinkCodesIsChecksumPinLaw" = some m.cls := findClass_of_methodNamed Bd.named
  have hnm := (name_of_methodNamed Bd.named Bd.method).1
  have X0 : Stand p l e room_1 s m #[(.int p0), (.int p1), (.int p2), (.int p3)] below meth c s₁ [] 0 0 := Stand.of_body Bd
  have e0 : s₁.heap = h0 := by rw [← hh, Bd.state]; rfl
  have N0 := Fr.nil n0
  have pre0 : ∀ t, Steps p.tables e below (s₁.setTop (mkF m 0 #[.val (.int p0), .val (.int p1), .val (.int p2), .val (.int p3), .unset, .unset, .unset, .unset, .unset, .unset] [])) t → Steps p.tables e below (s₁.setTop (entryFrame m #[(.int p0), (.int p1), (.int p2), (.int p3)] maxLocals)) t := fun t k => castTop (ef_7 m p0 p1 p2 p3) k
  have K0 : Keep h0 h0 [] := Keep.refl h0 []
  have pre48 : ∀ t, Steps p.tables e below (s₁.setTop (mkF m 28 #[.val (.int p0), .val (.int p1), .val (.int p2), .val (.int p3), .val (.int (p0 &&& (2147483647 : Int32))), .val (.int (((p0 &&& (2147483647 : Int32)) >>> ((4 : Int32) &&& 31)) &&& (15 : Int32))), .val (.int ((p0 &&& (2147483647 : Int32)) &&& (15 : Int32))), .unset, .unset, .unset] [(.int p1), (.int (((p0 &&& (2147483647 : Int32)) >>> ((4 : Int32) &&& 31)) &&& (15 : Int32))), (.int (p3 &&& (3 : Int32)))])) t → Steps p.tables e below (s₁.setTop (entryFrame m #[(.int p0), (.int p1), (.int p2), (.int p3)] maxLocals)) t := fun t kt => by
    refine pre0 _ ?_
    show Steps p.tables e below (s₁.setTop (mkF m 0 #[.val (.int p0), .val (.int p1), .val (.int p2), .val (.int p3), .unset, .unset, .unset, .unset, .unset, .unset] [])) _
    refine XS.iloadN X0.here hx rfl (hb hby at_0) rfl ?_
    show Steps p.tables e below (s₁.setTop (mkF m 1 #[.val (.int p0), .val (.int p1), .val (.int p2), .val (.int p3), .unset, .unset, .unset, .unset, .unset, .unset] [(.int p0)])) _
    refine X0.ldcInt hx hown (mvT hZ (hw _ (List.mem_of_getElem? (i := 0) rfl))) (g := (mkF m 1 #[.val (.int p0), .val (.int p1), .val (.int p2), .val (.int p3), .unset, .unset, .unset, .unset, .unset, .unset] [(.int p0)])) rfl (hb hby at_1) _ ?_
    show Steps p.tables e below (s₁.setTop (mkF m 3 #[.val (.int p0), .val (.int p1), .val (.int p2), .val (.int p3), .unset, .unset, .unset, .unset, .unset, .unset] [(.int (2147483647 : Int32)), (.int p0)])) _
    refine XS.iand X0.here hx rfl (hb hby at_3) rfl ?_
    show Steps p.tables e below (s₁.setTop (mkF m 4 #[.val (.int p0), .val (.int p1), .val (.int p2), .val (.int p3), .unset, .unset, .unset, .unset, .unset, .unset] [(.int (p0 &&& (2147483647 : Int32)))])) _
    refine XS.istore X0.here hx rfl (hb hby at_4) rfl (l' := #[.val (.int p0), .val (.int p1), .val (.int p2), .val (.int p3), .val (.int (p0 &&& (2147483647 : Int32))), .unset, .unset, .unset, .unset, .unset]) rfl ?_
    show Steps p.tables e below (s₁.setTop (mkF m 6 #[.val (.int p0), .val (.int p1), .val (.int p2), .val (.int p3), .val (.int (p0 &&& (2147483647 : Int32))), .unset, .unset, .unset, .unset, .unset] [])) _
    refine XS.iload X0.here hx rfl (hb hby at_6) rfl ?_
    show Steps p.tables e below (s₁.setTop (mkF m 8 #[.val (.int p0), .val (.int p1), .val (.int p2), .val (.int p3), .val (.int (p0 &&& (2147483647 : Int32))), .unset, .unset, .unset, .unset, .unset] [(.int (p0 &&& (2147483647 : Int32)))])) _
    refine XS.iconst X0.here hx rfl (hb hby at_8) ?_
    show Steps p.tables e below (s₁.setTop (mkF m 9 #[.val (.int p0), .val (.int p1), .val (.int p2), .val (.int p3), .val (.int (p0 &&& (2147483647 : Int32))), .unset, .unset, .unset, .unset, .unset] [(.int (4 : Int32)), (.int (p0 &&& (2147483647 : Int32)))])) _
    refine XS.ishr X0.here hx rfl (hb hby at_9) rfl ?_
    show Steps p.tables e below (s₁.setTop (mkF m 10 #[.val (.int p0), .val (.int p1), .val (.int p2), .val (.int p3), .val (.int (p0 &&& (2147483647 : Int32))), .unset, .unset, .unset, .unset, .unset] [(.int ((p0 &&& (2147483647 : Int32)) >>> ((4 : Int32) &&& 31)))])) _
    refine XS.bipush X0.here hx rfl (hb hby at_10) ?_
    show Steps p.tables e below (s₁.setTop (mkF m 12 #[.val (.int p0), .val (.int p1), .val (.int p2), .val (.int p3), .val (.int (p0 &&& (2147483647 : Int32))), .unset, .unset, .unset, .unset, .unset] [(.int (15 : Int32)), (.int ((p0 &&& (2147483647 : Int32)) >>> ((4 : Int32) &&& 31)))])) _
    refine XS.iand X0.here hx rfl (hb hby at_12) rfl ?_
    show Steps p.tables e below (s₁.setTop (mkF m 13 #[.val (.int p0), .val (.int p1), .val (.int p2), .val (.int p3), .val (.int (p0 &&& (2147483647 : Int32))), .unset, .unset, .unset, .unset, .unset] [(.int (((p0 &&& (2147483647 : Int32)) >>> ((4 : Int32) &&& 31)) &&& (15 : Int32)))])) _
    refine XS.istore X0.here hx rfl (hb hby at_13) rfl (l' := #[.val (.int p0), .val (.int p1), .val (.int p2), .val (.int p3), .val (.int (p0 &&& (2147483647 : Int32))), .val (.int (((p0 &&& (2147483647 : Int32)) >>> ((4 : Int32) &&& 31)) &&& (15 : Int32))), .unset, .unset, .unset, .unset]) rfl ?_
    show Steps p.tables e below (s₁.setTop (mkF m 15 #[.val (.int p0), .val (.int p1), .val (.int p2), .val (.int p3), .val (.int (p0 &&& (2147483647 : Int32))), .val (.int (((p0 &&& (2147483647 : Int32)) >>> ((4 : Int32) &&& 31)) &&& (15 : Int32))), .unset, .unset, .unset, .unset] [])) _
    refine XS.iload X0.here hx rfl (hb hby at_15) rfl ?_
    show Steps p.tables e below (s₁.setTop (mkF m 17 #[.val (.int p0), .val (.int p1), .val (.int p2), .val (.int p3), .val (.int (p0 &&& (2147483647 : Int32))), .val (.int (((p0 &&& (2147483647 : Int32)) >>> ((4 : Int32) &&& 31)) &&& (15 : Int32))), .unset, .unset, .unset, .unset] [(.int (p0 &&& (2147483647 : Int32)))])) _
    refine XS.bipush X0.here hx rfl (hb hby at_17) ?_
    show Steps p.tables e below (s₁.setTop (mkF m 19 #[.val (.int p0), .val (.int p1), .val (.int p2), .val (.int p3), .val (.int (p0 &&& (2147483647 : Int32))), .val (.int (((p0 &&& (2147483647 : Int32)) >>> ((4 : Int32) &&& 31)) &&& (15 : Int32))), .unset, .unset, .unset, .unset] [(.int (15 : Int32)), (.int (p0 &&& (2147483647 : Int32)))])) _
    refine XS.iand X0.here hx rfl (hb hby at_19) rfl ?_
    show Steps p.tables e below (s₁.setTop (mkF m 20 #[.val (.int p0), .val (.int p1), .val (.int p2), .val (.int p3), .val (.int (p0 &&& (2147483647 : Int32))), .val (.int (((p0 &&& (2147483647 : Int32)) >>> ((4 : Int32) &&& 31)) &&& (15 : Int32))), .unset, .unset, .unset, .unset] [(.int ((p0 &&& (2147483647 : Int32)) &&& (15 : Int32)))])) _
    refine XS.istore X0.here hx rfl (hb hby at_20) rfl (l' := #[.val (.int p0), .val (.int p1), .val (.int p2), .val (.int p3), .val (.int (p0 &&& (2147483647 : Int32))), .val (.int (((p0 &&& (2147483647 : Int32)) >>> ((4 : Int32) &&& 31)) &&& (15 : Int32))), .val (.int ((p0 &&& (2147483647 : Int32)) &&& (15 : Int32))), .unset, .unset, .unset]) rfl ?_
    show Steps p.tables e below (s₁.setTop (mkF m 22 #[.val (.int p0), .val (.int p1), .val (.int p2), .val (.int p3), .val (.int (p0 &&& (2147483647 : Int32))), .val (.int (((p0 &&& (2147483647 : Int32)) >>> ((4 : Int32) &&& 31)) &&& (15 : Int32))), .val (.int ((p0 &&& (2147483647 : Int32)) &&& (15 : Int32))), .unset, .unset, .unset] [])) _
    refine XS.iloadN X0.here hx rfl (hb hby at_22) rfl ?_
    show Steps p.tables e below (s₁.setTop (mkF m 23 #[.val (.int p0), .val (.int p1), .val (.int p2), .val (.int p3), .val (.int (p0 &&& (2147483647 : Int32))), .val (.int (((p0 &&& (2147483647 : Int32)) >>> ((4 : Int32) &&& 31)) &&& (15 : Int32))), .val (.int ((p0 &&& (2147483647 : Int32)) &&& (15 : Int32))), .unset, .unset, .unset] [(.int p3)])) _
    refine XS.iconst X0.here hx rfl (hb hby at_23) ?_
    show Steps p.tables e below (s₁.setTop (mkF m 24 #[.val (.int p0), .val (.int p1), .val (.int p2), .val (.int p3), .val (.int (p0 &&& (2147483647 : Int32))), .val (.int (((p0 &&& (2147483647 : Int32)) >>> ((4 : Int32) &&& 31)) &&& (15 : Int32))), .val (.int ((p0 &&& (2147483647 : Int32)) &&& (15 : Int32))), .unset, .unset, .unset] [(.int (3 : Int32)), (.int p3)])) _
    refine XS.iand X0.here hx rfl (hb hby at_24) rfl ?_
    show Steps p.tables e below (s₁.setTop (mkF m 25 #[.val (.int p0), .val (.int p1), .val (.int p2), .val (.int p3), .val (.int (p0 &&& (2147483647 : Int32))), .val (.int (((p0 &&& (2147483647 : Int32)) >>> ((4 : Int32) &&& 31)) &&& (15 : Int32))), .val (.int ((p0 &&& (2147483647 : Int32)) &&& (15 : Int32))), .unset, .unset, .unset] [(.int (p3 &&& (3 : Int32)))])) _
    refine XS.iload X0.here hx rfl (hb hby at_25) rfl ?_
    show Steps p.tables e below (s₁.setTop (mkF m 27 #[.val (.int p0), .val (.int p1), .val (.int p2), .val (.int p3), .val (.int (p0 &&& (2147483647 : Int32))), .val (.int (((p0 &&& (2147483647 : Int32)) >>> ((4 : Int32) &&& 31)) &&& (15 : Int32))), .val (.int ((p0 &&& (2147483647 : Int32)) &&& (15 : Int32))), .unset, .unset, .unset] [(.int (((p0 &&& (2147483647 : Int32)) >>> ((4 : Int32) &&& 31)) &&& (15 : Int32))), (.int (p3 &&& (3 : Int32)))])) _
    refine XS.iloadN X0.here hx rfl (hb hby at_27) rfl ?_
    exact kt
  obtain ⟨_, _, ⟨T49, L49, k49, n49⟩, -, X49, ⟨Lc49, hQ49, l49, y49, z49⟩, st49⟩ := Jvm.LawKit.callS X0 hx (y := (⟨"com/example/hemawire/hemawire/lis/LinkCodesIsChecksumPinLaw", "pick", "(III)I"⟩ : MethodName)) hown (mvT hZ (hw _ (List.mem_of_getElem? (i := 1) rfl))) (mvT hZ (hw _ (List.mem_of_getElem? (i := 2) rfl))) (mvT hZ (hw _ (List.mem_of_getElem? (i := 3) rfl))) (mvT hZ (hw _ (List.mem_of_getElem? (i := 4) rfl))) (by decide) (backOf (W := 0) (rm_pick l Z a0 hw [] ((p3 &&& (3 : Int32))) ((((p0 &&& (2147483647 : Int32)) >>> ((4 : Int32) &&& 31)) &&& (15 : Int32))) p1 h0 n0 O0) hZ (hw _ (List.mem_of_getElem? (i := 4) rfl)) (hw _ (List.mem_of_getElem? (i := 3) rfl)) (by decide) (by decide)) (g := (mkF m 28 #[.val (.int p0), .val (.int p1), .val (.int p2), .val (.int p3), .val (.int (p0 &&& (2147483647 : Int32))), .val (.int (((p0 &&& (2147483647 : Int32)) >>> ((4 : Int32) &&& 31)) &&& (15 : Int32))), .val (.int ((p0 &&& (2147483647 : Int32)) &&& (15 : Int32))), .unset, .unset, .unset] [(.int p1), (.int (((p0 &&& (2147483647 : Int32)) >>> ((4 : Int32) &&& 31)) &&& (15 : Int32))), (.int (p3 &&& (3 : Int32)))])) rfl (by rw [hml]; rfl) (argsL := [(.int (p3 &&& (3 : Int32))), (.int (((p0 &&& (2147483647 : Int32)) >>> ((4 : Int32) &&& 31)) &&& (15 : Int32))), (.int p1)]) (rest := []) (lenOf pd_8 rfl) rfl (by show 2 * 0 + _ ≤ _; exact Nat.le_of_eq rfl) (hb hby at_28) (fun _ _ => ⟨rfl, e0, (by decide : 0 + 0 ≤ _), (by decide : 0 + 0 ≤ _)⟩)
  dsimp only [Pt.U, Pt.locs, Pt.cells, Pt.slots] at X49 l49 y49 z49 st49 hQ49
  subst l49 y49 z49
  obtain ⟨rfl, M49, e49⟩ := hQ49
  have N49 := Fr.app N0 M49
  have pre50 : ∀ t, Steps p.tables e below (T49.setTop (mkF m 31 #[.val (.int p0), .val (.int p1), .val (.int p2), .val (.int p3), .val (.int (p0 &&& (2147483647 : Int32))), .val (.int (((p0 &&& (2147483647 : Int32)) >>> ((4 : Int32) &&& 31)) &&& (15 : Int32))), .val (.int ((p0 &&& (2147483647 : Int32)) &&& (15 : Int32))), .unset, .unset, .unset] [(.int (own_pick (p3 &&& (3 : Int32)) (((p0 &&& (2147483647 : Int32)) >>> ((4 : Int32) &&& 31)) &&& (15 : Int32)) p1))])) t → Steps p.tables e below (s₁.setTop (entryFrame m #[(.int p0), (.int p1), (.int p2), (.int p3)] maxLocals)) t := fun t kt => pre48 _ (st49 _ kt)
  have pre51 : ∀ t, Steps p.tables e below (T49.setTop (mkF m 41 #[.val (.int p0), .val (.int p1), .val (.int p2), .val (.int p3), .val (.int (p0 &&& (2147483647 : Int32))), .val (.int (((p0 &&& (2147483647 : Int32)) >>> ((4 : Int32) &&& 31)) &&& (15 : Int32))), .val (.int ((p0 &&& (2147483647 : Int32)) &&& (15 : Int32))), .val (.int (own_pick (p3 &&& (3 : Int32)) (((p0 &&& (2147483647 : Int32)) >>> ((4 : Int32) &&& 31)) &&& (15 : Int32)) p1)), .unset, .unset] [(.int p2), (.int ((p0 &&& (2147483647 : Int32)) &&& (15 : Int32))), (.int ((p3 >>> ((2 : Int32) &&& 31)) &&& (3 : Int32)))])) t → Steps p.tables e below (s₁.setTop (entryFrame m #[(.int p0), (.int p1), (.int p2), (.int p3)] maxLocals)) t := fun t kt => by
    refine pre50 _ ?_
    show Steps p.tables e below (T49.setTop (mkF m 31 #[.val (.int p0), .val (.int p1), .val (.int p2), .val (.int p3), .val (.int (p0 &&& (2147483647 : Int32))), .val (.int (((p0 &&& (2147483647 : Int32)) >>> ((4 : Int32) &&& 31)) &&& (15 : Int32))), .val (.int ((p0 &&& (2147483647 : Int32)) &&& (15 : Int32))), .unset, .unset, .unset] [(.int (own_pick (p3 &&& (3 : Int32)) (((p0 &&& (2147483647 : Int32)) >>> ((4 : Int32) &&& 31)) &&& (15 : Int32)) p1))])) _
    refine XS.istore X49.here hx rfl (hb hby at_31) rfl (l' := #[.val (.int p0), .val (.int p1), .val (.int p2), .val (.int p3), .val (.int (p0 &&& (2147483647 : Int32))), .val (.int (((p0 &&& (2147483647 : Int32)) >>> ((4 : Int32) &&& 31)) &&& (15 : Int32))), .val (.int ((p0 &&& (2147483647 : Int32)) &&& (15 : Int32))), .val (.int (own_pick (p3 &&& (3 : Int32)) (((p0 &&& (2147483647 : Int32)) >>> ((4 : Int32) &&& 31)) &&& (15 : Int32)) p1)), .unset, .unset]) rfl ?_
    show Steps p.tables e below (T49.setTop (mkF m 33 #[.val (.int p0), .val (.int p1), .val (.int p2), .val (.int p3), .val (.int (p0 &&& (2147483647 : Int32))), .val (.int (((p0 &&& (2147483647 : Int32)) >>> ((4 : Int32) &&& 31)) &&& (15 : Int32))), .val (.int ((p0 &&& (2147483647 : Int32)) &&& (15 : Int32))), .val (.int (own_pick (p3 &&& (3 : Int32)) (((p0 &&& (2147483647 : Int32)) >>> ((4 : Int32) &&& 31)) &&& (15 : Int32)) p1)), .unset, .unset] [])) _
    refine XS.iloadN X49.here hx rfl (hb hby at_33) rfl ?_
    show Steps p.tables e below (T49.setTop (mkF m 34 #[.val (.int p0), .val (.int p1), .val (.int p2), .val (.int p3), .val (.int (p0 &&& (2147483647 : Int32))), .val (.int (((p0 &&& (2147483647 : Int32)) >>> ((4 : Int32) &&& 31)) &&& (15 : Int32))), .val (.int ((p0 &&& (2147483647 : Int32)) &&& (15 : Int32))), .val (.int (own_pick (p3 &&& (3 : Int32)) (((p0 &&& (2147483647 : Int32)) >>> ((4 : Int32) &&& 31)) &&& (15 : Int32)) p1)), .unset, .unset] [(.int p3)])) _
    refine XS.iconst X49.here hx rfl (hb hby at_34) ?_
    show Steps p.tables e below (T49.setTop (mkF m 35 #[.val (.int p0), .val (.int p1), .val (.int p2), .val (.int p3), .val (.int (p0 &&& (2147483647 : Int32))), .val (.int (((p0 &&& (2147483647 : Int32)) >>> ((4 : Int32) &&& 31)) &&& (15 : Int32))), .val (.int ((p0 &&& (2147483647 : Int32)) &&& (15 : Int32))), .val (.int (own_pick (p3 &&& (3 : Int32)) (((p0 &&& (2147483647 : Int32)) >>> ((4 : Int32) &&& 31)) &&& (15 : Int32)) p1)), .unset, .unset] [(.int (2 : Int32)), (.int p3)])) _
    refine XS.ishr X49.here hx rfl (hb hby at_35) rfl ?_
    show Steps p.tables e below (T49.setTop (mkF m 36 #[.val (.int p0), .val (.int p1), .val (.int p2), .val (.int p3), .val (.int (p0 &&& (2147483647 : Int32))), .val (.int (((p0 &&& (2147483647 : Int32)) >>> ((4 : Int32) &&& 31)) &&& (15 : Int32))), .val (.int ((p0 &&& (2147483647 : Int32)) &&& (15 : Int32))), .val (.int (own_pick (p3 &&& (3 : Int32)) (((p0 &&& (2147483647 : Int32)) >>> ((4 : Int32) &&& 31)) &&& (15 : Int32)) p1)), .unset, .unset] [(.int (p3 >>> ((2 : Int32) &&& 31)))])) _
    refine XS.iconst X49.here hx rfl (hb hby at_36) ?_
    show Steps p.tables e below (T49.setTop (mkF m 37 #[.val (.int p0), .val (.int p1), .val (.int p2), .val (.int p3), .val (.int (p0 &&& (2147483647 : Int32))), .val (.int (((p0 &&& (2147483647 : Int32)) >>> ((4 : Int32) &&& 31)) &&& (15 : Int32))), .val (.int ((p0 &&& (2147483647 : Int32)) &&& (15 : Int32))), .val (.int (own_pick (p3 &&& (3 : Int32)) (((p0 &&& (2147483647 : Int32)) >>> ((4 : Int32) &&& 31)) &&& (15 : Int32)) p1)), .unset, .unset] [(.int (3 : Int32)), (.int (p3 >>> ((2 : Int32) &&& 31)))])) _
    refine XS.iand X49.here hx rfl (hb hby at_37) rfl ?_
    show Steps p.tables e below (T49.setTop (mkF m 38 #[.val (.int p0), .val (.int p1), .val (.int p2), .val (.int p3), .val (.int (p0 &&& (2147483647 : Int32))), .val (.int (((p0 &&& (2147483647 : Int32)) >>> ((4 : Int32) &&& 31)) &&& (15 : Int32))), .val (.int ((p0 &&& (2147483647 : Int32)) &&& (15 : Int32))), .val (.int (own_pick (p3 &&& (3 : Int32)) (((p0 &&& (2147483647 : Int32)) >>> ((4 : Int32) &&& 31)) &&& (15 : Int32)) p1)), .unset, .unset] [(.int ((p3 >>> ((2 : Int32) &&& 31)) &&& (3 : Int32)))])) _
    refine XS.iload X49.here hx rfl (hb hby at_38) rfl ?_
    show Steps p.tables e below (T49.setTop (mkF m 40 #[.val (.int p0), .val (.int p1), .val (.int p2), .val (.int p3), .val (.int (p0 &&& (2147483647 : Int32))), .val (.int (((p0 &&& (2147483647 : Int32)) >>> ((4 : Int32) &&& 31)) &&& (15 : Int32))), .val (.int ((p0 &&& (2147483647 : Int32)) &&& (15 : Int32))), .val (.int (own_pick (p3 &&& (3 : Int32)) (((p0 &&& (2147483647 : Int32)) >>> ((4 : Int32) &&& 31)) &&& (15 : Int32)) p1)), .unset, .unset] [(.int ((p0 &&& (2147483647 : Int32)) &&& (15 : Int32))), (.int ((p3 >>> ((2 : Int32) &&& 31)) &&& (3 : Int32)))])) _
    refine XS.iloadN X49.here hx rfl (hb hby at_40) rfl ?_
    exact kt
  obtain ⟨_, _, ⟨T52, L52, k52, n52⟩, -, X52, ⟨Lc52, hQ52, l52, y52, z52⟩, st52⟩ := Jvm.LawKit.callS X49 hx (y := (⟨"com/example/hemawire/hemawire/lis/LinkCodesIsChecksumPinLaw", "pick", "(III)I"⟩ : MethodName)) hown (mvT hZ (hw _ (List.mem_of_getElem? (i := 1) rfl))) (mvT hZ (hw _ (List.mem_of_getElem? (i := 2) rfl))) (mvT hZ (hw _ (List.mem_of_getElem? (i := 3) rfl))) (mvT hZ (hw _ (List.mem_of_getElem? (i := 4) rfl))) (by decide) (backOf (W := 0) (rm_pick l Z a0 hw [] (((p3 >>> ((2 : Int32) &&& 31)) &&& (3 : Int32))) (((p0 &&& (2147483647 : Int32)) &&& (15 : Int32))) p2 h0 n0 O0) hZ (hw _ (List.mem_of_getElem? (i := 4) rfl)) (hw _ (List.mem_of_getElem? (i := 3) rfl)) (by decide) (by decide)) (g := (mkF m 41 #[.val (.int p0), .val (.int p1), .val (.int p2), .val (.int p3), .val (.int (p0 &&& (2147483647 : Int32))), .val (.int (((p0 &&& (2147483647 : Int32)) >>> ((4 : Int32) &&& 31)) &&& (15 : Int32))), .val (.int ((p0 &&& (2147483647 : Int32)) &&& (15 : Int32))), .val (.int (own_pick (p3 &&& (3 : Int32)) (((p0 &&& (2147483647 : Int32)) >>> ((4 : Int32) &&& 31)) &&& (15 : Int32)) p1)), .unset, .unset] [(.int p2), (.int ((p0 &&& (2147483647 : Int32)) &&& (15 : Int32))), (.int ((p3 >>> ((2 : Int32) &&& 31)) &&& (3 : Int32)))])) rfl (by rw [hml]; rfl) (argsL := [(.int ((p3 >>> ((2 : Int32) &&& 31)) &&& (3 : Int32))), (.int ((p0 &&& (2147483647 : Int32)) &&& (15 : Int32))), (.int p2)]) (rest := []) (lenOf pd_8 rfl) rfl (by show 2 * 0 + _ ≤ _; exact Nat.le_of_eq rfl) (hb hby at_41) (fun _ _ => ⟨rfl, e49, (by decide : 0 + 0 ≤ _), (by decide : 0 + 0 ≤ _)⟩)
  dsimp only [Pt.U, Pt.locs, Pt.cells, Pt.slots] at X52 l52 y52 z52 st52 hQ52
  subst l52 y52 z52
  obtain ⟨rfl, M52, e52⟩ := hQ52
  have N52 := Fr.app N49 M52
  have pre53 : ∀ t, Steps p.tables e below (T52.setTop (mkF m 44 #[.val (.int p0), .val (.int p1), .val (.int p2), .val (.int p3), .val (.int (p0 &&& (2147483647 : Int32))), .val (.int (((p0 &&& (2147483647 : Int32)) >>> ((4 : Int32) &&& 31)) &&& (15 : Int32))), .val (.int ((p0 &&& (2147483647 : Int32)) &&& (15 : Int32))), .val (.int (own_pick (p3 &&& (3 : Int32)) (((p0 &&& (2147483647 : Int32)) >>> ((4 : Int32) &&& 31)) &&& (15 : Int32)) p1)), .unset, .unset] [(.int (own_pick ((p3 >>> ((2 : Int32) &&& 31)) &&& (3 : Int32)) ((p0 &&& (2147483647 : Int32)) &&& (15 : Int32)) p2))])) t → Steps p.tables e below (s₁.setTop (entryFrame m #[(.int p0), (.int p1), (.int p2), (.int p3)] maxLocals)) t := fun t kt => pre51 _ (st52 _ kt)
  have pre54 : ∀ t, Steps p.tables e below (T52.setTop (mkF m 50 #[.val (.int p0), .val (.int p1), .val (.int p2), .val (.int p3), .val (.int (p0 &&& (2147483647 : Int32))), .val (.int (((p0 &&& (2147483647 : Int32)) >>> ((4 : Int32) &&& 31)) &&& (15 : Int32))), .val (.int ((p0 &&& (2147483647 : Int32)) &&& (15 : Int32))), .val (.int (own_pick (p3 &&& (3 : Int32)) (((p0 &&& (2147483647 : Int32)) >>> ((4 : Int32) &&& 31)) &&& (15 : Int32)) p1)), .val (.int (own_pick ((p3 >>> ((2 : Int32) &&& 31)) &&& (3 : Int32)) ((p0 &&& (2147483647 : Int32)) &&& (15 : Int32)) p2)), .unset] [(.int (((p0 &&& (2147483647 : Int32)) >>> ((4 : Int32) &&& 31)) &&& (15 : Int32))), (.int (own_pick (p3 &&& (3 : Int32)) (((p0 &&& (2147483647 : Int32)) >>> ((4 : Int32) &&& 31)) &&& (15 : Int32)) p1))])) t → Steps p.tables e below (s₁.setTop (entryFrame m #[(.int p0), (.int p1), (.int p2), (.int p3)] maxLocals)) t := fun t kt => by
    refine pre53 _ ?_
    show Steps p.tables e below (T52.setTop (mkF m 44 #[.val (.int p0), .val (.int p1), .val (.int p2), .val (.int p3), .val (.int (p0 &&& (2147483647 : Int32))), .val (.int (((p0 &&& (2147483647 : Int32)) >>> ((4 : Int32) &&& 31)) &&& (15 : Int32))), .val (.int ((p0 &&& (2147483647 : Int32)) &&& (15 : Int32))), .val (.int (own_pick (p3 &&& (3 : Int32)) (((p0 &&& (2147483647 : Int32)) >>> ((4 : Int32) &&& 31)) &&& (15 : Int32)) p1)), .unset, .unset] [(.int (own_pick ((p3 >>> ((2 : Int32) &&& 31)) &&& (3 : Int32)) ((p0 &&& (2147483647 : Int32)) &&& (15 : Int32)) p2))])) _
    refine XS.istore X52.here hx rfl (hb hby at_44) rfl (l' := #[.val (.int p0), .val (.int p1), .val (.int p2), .val (.int p3), .val (.int (p0 &&& (2147483647 : Int32))), .val (.int (((p0 &&& (2147483647 : Int32)) >>> ((4 : Int32) &&& 31)) &&& (15 : Int32))), .val (.int ((p0 &&& (2147483647 : Int32)) &&& (15 : Int32))), .val (.int (own_pick (p3 &&& (3 : Int32)) (((p0 &&& (2147483647 : Int32)) >>> ((4 : Int32) &&& 31)) &&& (15 : Int32)) p1)), .val (.int (own_pick ((p3 >>> ((2 : Int32) &&& 31)) &&& (3 : Int32)) ((p0 &&& (2147483647 : Int32)) &&& (15 : Int32)) p2)), .unset]) rfl ?_
    show Steps p.tables e below (T52.setTop (mkF m 46 #[.val (.int p0), .val (.int p1), .val (.int p2), .val (.int p3), .val (.int (p0 &&& (2147483647 : Int32))), .val (.int (((p0 &&& (2147483647 : Int32)) >>> ((4 : Int32) &&& 31)) &&& (15 : Int32))), .val (.int ((p0 &&& (2147483647 : Int32)) &&& (15 : Int32))), .val (.int (own_pick (p3 &&& (3 : Int32)) (((p0 &&& (2147483647 : Int32)) >>> ((4 : Int32) &&& 31)) &&& (15 : Int32)) p1)), .val (.int (own_pick ((p3 >>> ((2 : Int32) &&& 31)) &&& (3 : Int32)) ((p0 &&& (2147483647 : Int32)) &&& (15 : Int32)) p2)), .unset] [])) _
    refine XS.iload X52.here hx rfl (hb hby at_46) rfl ?_
    show Steps p.tables e below (T52.setTop (mkF m 48 #[.val (.int p0), .val (.int p1), .val (.int p2), .val (.int p3), .val (.int (p0 &&& (2147483647 : Int32))), .val (.int (((p0 &&& (2147483647 : Int32)) >>> ((4 : Int32) &&& 31)) &&& (15 : Int32))), .val (.int ((p0 &&& (2147483647 : Int32)) &&& (15 : Int32))), .val (.int (own_pick (p3 &&& (3 : Int32)) (((p0 &&& (2147483647 : Int32)) >>> ((4 : Int32) &&& 31)) &&& (15 : Int32)) p1)), .val (.int (own_pick ((p3 >>> ((2 : Int32) &&& 31)) &&& (3 : Int32)) ((p0 &&& (2147483647 : Int32)) &&& (15 : Int32)) p2)), .unset] [(.int (own_pick (p3 &&& (3 : Int32)) (((p0 &&& (2147483647 : Int32)) >>> ((4 : Int32) &&& 31)) &&& (15 : Int32)) p1))])) _
    refine XS.iload X52.here hx rfl (hb hby at_48) rfl ?_
    exact kt
  obtain ⟨_, _, ⟨T55, L55, k55, n55⟩, -, X55, ⟨Lc55, hQ55, l55, y55, z55⟩, st55⟩ := Jvm.LawKit.callS X52 hx (y := (⟨"com/example/hemawire/hemawire/lis/LinkCodesIsChecksumPinLaw", "hexUp", "(I)I"⟩ : MethodName)) hown (mvT hZ (hw _ (List.mem_of_getElem? (i := 8) rfl))) (mvT hZ (hw _ (List.mem_of_getElem? (i := 9) rfl))) (mvT hZ (hw _ (List.mem_of_getElem? (i := 3) rfl))) (mvT hZ (hw _ (List.mem_of_getElem? (i := 10) rfl))) (by decide) (backOf (W := 1) (rm_hexUp l Z a0 hw [] ((((p0 &&& (2147483647 : Int32)) >>> ((4 : Int32) &&& 31)) &&& (15 : Int32))) h0 n0 O0) hZ (hw _ (List.mem_of_getElem? (i := 10) rfl)) (hw _ (List.mem_of_getElem? (i := 3) rfl)) (by decide) (by decide)) (g := (mkF m 50 #[.val (.int p0), .val (.int p1), .val (.int p2), .val (.int p3), .val (.int (p0 &&& (2147483647 : Int32))), .val (.int (((p0 &&& (2147483647 : Int32)) >>> ((4 : Int32) &&& 31)) &&& (15 : Int32))), .val (.int ((p0 &&& (2147483647 : Int32)) &&& (15 : Int32))), .val (.int (own_pick (p3 &&& (3 : Int32)) (((p0 &&& (2147483647 : Int32)) >>> ((4 : Int32) &&& 31)) &&& (15 : Int32)) p1)), .val (.int (own_pick ((p3 >>> ((2 : Int32) &&& 31)) &&& (3 : Int32)) ((p0 &&& (2147483647 : Int32)) &&& (15 : Int32)) p2)), .unset] [(.int (((p0 &&& (2147483647 : Int32)) >>> ((4 : Int32) &&& 31)) &&& (15 : Int32))), (.int (own_pick (p3 &&& (3 : Int32)) (((p0 &&& (2147483647 : Int32)) >>> ((4 : Int32) &&& 31)) &&& (15 : Int32)) p1))])) rfl (by rw [hml]; rfl) (argsL := [(.int (((p0 &&& (2147483647 : Int32)) >>> ((4 : Int32) &&& 31)) &&& (15 : Int32)))]) (rest := [(.int (own_pick (p3 &&& (3 : Int32)) (((p0 &&& (2147483647 : Int32)) >>> ((4 : Int32) &&& 31)) &&& (15 : Int32)) p1))]) (lenOf pd_4 rfl) rfl (by show 2 * 0 + _ ≤ _; exact Nat.le_of_eq rfl) (hb hby at_50) (fun _ _ => ⟨rfl, e52, (by decide : 0 + 0 ≤ _), (by decide : 0 + 0 ≤ _)⟩)
  dsimp only [Pt.U, Pt.locs, Pt.cells, Pt.slots] at X55 l55 y55 z55 st55 hQ55
  subst l55 y55 z55
  obtain ⟨rfl, M55, e55⟩ := hQ55
  have N55 := Fr.app N52 M55
  have pre56 : ∀ t, Steps p.tables e below (T55.setTop (mkF m 53 #[.val (.int p0), .val (.int p1), .val (.int p2), .val (.int p3), .val (.int (p0 &&& (2147483647 : Int32))), .val (.int (((p0 &&& (2147483647 : Int32)) >>> ((4 : Int32) &&& 31)) &&& (15 : Int32))), .val (.int ((p0 &&& (2147483647 : Int32)) &&& (15 : Int32))), .val (.int (own_pick (p3 &&& (3 : Int32)) (((p0 &&& (2147483647 : Int32)) >>> ((4 : Int32) &&& 31)) &&& (15 : Int32)) p1)), .val (.int (own_pick ((p3 >>> ((2 : Int32) &&& 31)) &&& (3 : Int32)) ((p0 &&& (2147483647 : Int32)) &&& (15 : Int32)) p2)), .unset] [(.int (own_hexUp (((p0 &&& (2147483647 : Int32)) >>> ((4 : Int32) &&& 31)) &&& (15 : Int32)))), (.int (own_pick (p3 &&& (3 : Int32)) (((p0 &&& (2147483647 : Int32)) >>> ((4 : Int32) &&& 31)) &&& (15 : Int32)) p1))])) t → Steps p.tables e below (s₁.setTop (entryFrame m #[(.int p0), (.int p1), (.int p2), (.int p3)] maxLocals)) t := fun t kt => pre54 _ (st55 _ kt)
  by_cases hc57 : (own_pick (p3 &&& (3 : Int32)) (((p0 &&& (2147483647 : Int32)) >>> ((4 : Int32) &&& 31)) &&& (15 : Int32)) p1) = (own_hexUp (((p0 &&& (2147483647 : Int32)) >>> ((4 : Int32) &&& 31)) &&& (15 : Int32)))
  · have pre58 : ∀ t, Steps p.tables e below (T55.setTop (mkF m 60 #[.val (.int p0), .val (.int p1), .val (.int p2), .val (.int p3), .val (.int (p0 &&& (2147483647 : Int32))), .val (.int (((p0 &&& (2147483647 : Int32)) >>> ((4 : Int32) &&& 31)) &&& (15 : Int32))), .val (.int ((p0 &&& (2147483647 : Int32)) &&& (15 : Int32))), .val (.int (own_pick (p3 &&& (3 : Int32)) (((p0 &&& (2147483647 : Int32)) >>> ((4 : Int32) &&& 31)) &&& (15 : Int32)) p1)), .val (.int (own_pick ((p3 >>> ((2 : Int32) &&& 31)) &&& (3 : Int32)) ((p0 &&& (2147483647 : Int32)) &&& (15 : Int32)) p2)), .unset] [(.int ((p0 &&& (2147483647 : Int32)) &&& (15 : Int32))), (.int (own_pick ((p3 >>> ((2 : Int32) &&& 31)) &&& (3 : Int32)) ((p0 &&& (2147483647 : Int32)) &&& (15 : Int32)) p2))])) t → Steps p.tables e below (s₁.setTop (entryFrame m #[(.int p0), (.int p1), (.int p2), (.int p3)] maxLocals)) t := fun t kt => by
      refine pre56 _ ?_
      show Steps p.tables e below (T55.setTop (mkF m 53 #[.val (.int p0), .val (.int p1), .val (.int p2), .val (.int p3), .val (.int (p0 &&& (2147483647 : Int32))), .val (.int (((p0 &&& (2147483647 : Int32)) >>> ((4 : Int32) &&& 31)) &&& (15 : Int32))), .val (.int ((p0 &&& (2147483647 : Int32)) &&& (15 : Int32))), .val (.int (own_pick (p3 &&& (3 : Int32)) (((p0 &&& (2147483647 : Int32)) >>> ((4 : Int32) &&& 31)) &&& (15 : Int32)) p1)), .val (.int (own_pick ((p3 >>> ((2 : Int32) &&& 31)) &&& (3 : Int32)) ((p0 &&& (2147483647 : Int32)) &&& (15 : Int32)) p2)), .unset] [(.int (own_hexUp (((p0 &&& (2147483647 : Int32)) >>> ((4 : Int32) &&& 31)) &&& (15 : Int32)))), (.int (own_pick (p3 &&& (3 : Int32)) (((p0 &&& (2147483647 : Int32)) >>> ((4 : Int32) &&& 31)) &&& (15 : Int32)) p1))])) _
      refine XS.icmpNo X55.here hx rfl (hb hby at_53) rfl (XT.ii_ne_f hc57) ?_
      show Steps p.tables e below (T55.setTop (mkF m 56 #[.val (.int p0), .val (.int p1), .val (.int p2), .val (.int p3), .val (.int (p0 &&& (2147483647 : Int32))), .val (.int (((p0 &&& (2147483647 : Int32)) >>> ((4 : Int32) &&& 31)) &&& (15 : Int32))), .val (.int ((p0 &&& (2147483647 : Int32)) &&& (15 : Int32))), .val (.int (own_pick (p3 &&& (3 : Int32)) (((p0 &&& (2147483647 : Int32)) >>> ((4 : Int32) &&& 31)) &&& (15 : Int32)) p1)), .val (.int (own_pick ((p3 >>> ((2 : Int32) &&& 31)) &&& (3 : Int32)) ((p0 &&& (2147483647 : Int32)) &&& (15 : Int32)) p2)), .unset] [])) _
      refine XS.iload X55.here hx rfl (hb hby at_56) rfl ?_
      show Steps p.tables e below (T55.setTop (mkF m 58 #[.val (.int p0), .val (.int p1), .val (.int p2), .val (.int p3), .val (.int (p0 &&& (2147483647 : Int32))), .val (.int (((p0 &&& (2147483647 : Int32)) >>> ((4 : Int32) &&& 31)) &&& (15 : Int32))), .val (.int ((p0 &&& (2147483647 : Int32)) &&& (15 : Int32))), .val (.int (own_pick (p3 &&& (3 : Int32)) (((p0 &&& (2147483647 : Int32)) >>> ((4 : Int32) &&& 31)) &&& (15 : Int32)) p1)), .val (.int (own_pick ((p3 >>> ((2 : Int32) &&& 31)) &&& (3 : Int32)) ((p0 &&& (2147483647 : Int32)) &&& (15 : Int32)) p2)), .unset] [(.int (own_pick ((p3 >>> ((2 : Int32) &&& 31)) &&& (3 : Int32)) ((p0 &&& (2147483647 : Int32)) &&& (15 : Int32)) p2))])) _
      refine XS.iload X55.here hx rfl (hb hby at_58) rfl ?_
      exact kt
    obtain ⟨_, _, ⟨T59, L59, k59, n59⟩, -, X59, ⟨Lc59, hQ59, l59, y59, z59⟩, st59⟩ := Jvm.LawKit.callS X55 hx (y := (⟨"com/example/hemawire/hemawire/lis/LinkCodesIsChecksumPinLaw", "hexUp", "(I)I"⟩ : MethodName)) hown (mvT hZ (hw _ (List.mem_of_getElem? (i := 8) rfl))) (mvT hZ (hw _ (List.mem_of_getElem? (i := 9) rfl))) (mvT hZ (hw _ (List.mem_of_getElem? (i := 3) rfl))) (mvT hZ (hw _ (List.mem_of_getElem? (i := 10) rfl))) (by decide) (backOf (W := 1) (rm_hexUp l Z a0 hw [] (((p0 &&& (2147483647 : Int32)) &&& (15 : Int32))) h0 n0 O0) hZ (hw _ (List.mem_of_getElem? (i := 10) rfl)) (hw _ (List.mem_of_getElem? (i := 3) rfl)) (by decide) (by decide)) (g := (mkF m 60 #[.val (.int p0), .val (.int p1), .val (.int p2), .val (.int p3), .val (.int (p0 &&& (2147483647 : Int32))), .val (.int (((p0 &&& (2147483647 : Int32)) >>> ((4 : Int32) &&& 31)) &&& (15 : Int32))), .val (.int ((p0 &&& (2147483647 : Int32)) &&& (15 : Int32))), .val (.int (own_pick (p3 &&& (3 : Int32)) (((p0 &&& (2147483647 : Int32)) >>> ((4 : Int32) &&& 31)) &&& (15 : Int32)) p1)), .val (.int (own_pick ((p3 >>> ((2 : Int32) &&& 31)) &&& (3 : Int32)) ((p0 &&& (2147483647 : Int32)) &&& (15 : Int32)) p2)), .unset] [(.int ((p0 &&& (2147483647 : Int32)) &&& (15 : Int32))), (.int (own_pick ((p3 >>> ((2 : Int32) &&& 31)) &&& (3 : Int32)) ((p0 &&& (2147483647 : Int32)) &&& (15 : Int32)) p2))])) rfl (by rw [hml]; rfl) (argsL := [(.int ((p0 &&& (2147483647 : Int32)) &&& (15 : Int32)))]) (rest := [(.int (own_pick ((p3 >>> ((2 : Int32) &&& 31)) &&& (3 : Int32)) ((p0 &&& (2147483647 : Int32)) &&& (15 : Int32)) p2))]) (lenOf pd_4 rfl) rfl (by show 2 * 0 + _ ≤ _; exact Nat.le_of_eq rfl) (hb hby at_60) (fun _ _ => ⟨rfl, e55, (by decide : 0 + 0 ≤ _), (by decide : 0 + 0 ≤ _)⟩)
    dsimp only [Pt.U, Pt.locs, Pt.cells, Pt.slots] at X59 l59 y59 z59 st59 hQ59
    subst l59 y59 z59
    obtain ⟨rfl, M59, e59⟩ := hQ59
    have N59 := Fr.app N55 M59
    have pre60 : ∀ t, Steps p.tables e below (T59.setTop (mkF m 63 #[.val (.int p0), .val (.int p1), .val (.int p2), .val (.int p3), .val (.int (p0 &&& (2147483647 : Int32))), .val (.int (((p0 &&& (2147483647 : Int32)) >>> ((4 : Int32) &&& 31)) &&& (15 : Int32))), .val (.int ((p0 &&& (2147483647 : Int32)) &&& (15 : Int32))), .val (.int (own_pick (p3 &&& (3 : Int32)) (((p0 &&& (2147483647 : Int32)) >>> ((4 : Int32) &&& 31)) &&& (15 : Int32)) p1)), .val (.int (own_pick ((p3 >>> ((2 : Int32) &&& 31)) &&& (3 : Int32)) ((p0 &&& (2147483647 : Int32)) &&& (15 : Int32)) p2)), .unset] [(.int (own_hexUp ((p0 &&& (2147483647 : Int32)) &&& (15 : Int32)))), (.int (own_pick ((p3 >>> ((2 : Int32) &&& 31)) &&& (3 : Int32)) ((p0 &&& (2147483647 : Int32)) &&& (15 : Int32)) p2))])) t → Steps p.tables e below (s₁.setTop (entryFrame m #[(.int p0), (.int p1), (.int p2), (.int p3)] maxLocals)) t := fun t kt => pre58 _ (st59 _ kt)
    by_cases hc61 : (own_pick ((p3 >>> ((2 : Int32) &&& 31)) &&& (3 : Int32)) ((p0 &&& (2147483647 : Int32)) &&& (15 : Int32)) p2) = (own_hexUp ((p0 &&& (2147483647 : Int32)) &&& (15 : Int32)))
    · have pre62 : ∀ t, Steps p.tables e below (T59.setTop (mkF m 79 #[.val (.int p0), .val (.int p1), .val (.int p2), .val (.int p3), .val (.int (p0 &&& (2147483647 : Int32))), .val (.int (((p0 &&& (2147483647 : Int32)) >>> ((4 : Int32) &&& 31)) &&& (15 : Int32))), .val (.int ((p0 &&& (2147483647 : Int32)) &&& (15 : Int32))), .val (.int (own_pick (p3 &&& (3 : Int32)) (((p0 &&& (2147483647 : Int32)) >>> ((4 : Int32) &&& 31)) &&& (15 : Int32)) p1)), .val (.int (own_pick ((p3 >>> ((2 : Int32) &&& 31)) &&& (3 : Int32)) ((p0 &&& (2147483647 : Int32)) &&& (15 : Int32)) p2)), .val (.int (1 : Int32))] [(.int (own_pick ((p3 >>> ((2 : Int32) &&& 31)) &&& (3 : Int32)) ((p0 &&& (2147483647 : Int32)) &&& (15 : Int32)) p2)), (.int (own_pick (p3 &&& (3 : Int32)) (((p0 &&& (2147483647 : Int32)) >>> ((4 : Int32) &&& 31)) &&& (15 : Int32)) p1)), (.int (p0 &&& (2147483647 : Int32)))])) t → Steps p.tables e below (s₁.setTop (entryFrame m #[(.int p0), (.int p1), (.int p2), (.int p3)] maxLocals)) t := fun t kt => by
        refine pre60 _ ?_
        show Steps p.tables e below (T59.setTop (mkF m 63 #[.val (.int p0), .val (.int p1), .val (.int p2), .val (.int p3), .val (.int (p0 &&& (2147483647 : Int32))), .val (.int (((p0 &&& (2147483647 : Int32)) >>> ((4 : Int32) &&& 31)) &&& (15 : Int32))), .val (.int ((p0 &&& (2147483647 : Int32)) &&& (15 : Int32))), .val (.int (own_pick (p3 &&& (3 : Int32)) (((p0 &&& (2147483647 : Int32)) >>> ((4 : Int32) &&& 31)) &&& (15 : Int32)) p1)), .val (.int (own_pick ((p3 >>> ((2 : Int32) &&& 31)) &&& (3 : Int32)) ((p0 &&& (2147483647 : Int32)) &&& (15 : Int32)) p2)), .unset] [(.int (own_hexUp ((p0 &&& (2147483647 : Int32)) &&& (15 : Int32)))), (.int (own_pick ((p3 >>> ((2 : Int32) &&& 31)) &&& (3 : Int32)) ((p0 &&& (2147483647 : Int32)) &&& (15 : Int32)) p2))])) _
        refine XS.icmpNo X59.here hx rfl (hb hby at_63) rfl (XT.ii_ne_f hc61) ?_
        show Steps p.tables e below (T59.setTop (mkF m 66 #[.val (.int p0), .val (.int p1), .val (.int p2), .val (.int p3), .val (.int (p0 &&& (2147483647 : Int32))), .val (.int (((p0 &&& (2147483647 : Int32)) >>> ((4 : Int32) &&& 31)) &&& (15 : Int32))), .val (.int ((p0 &&& (2147483647 : Int32)) &&& (15 : Int32))), .val (.int (own_pick (p3 &&& (3 : Int32)) (((p0 &&& (2147483647 : Int32)) >>> ((4 : Int32) &&& 31)) &&& (15 : Int32)) p1)), .val (.int (own_pick ((p3 >>> ((2 : Int32) &&& 31)) &&& (3 : Int32)) ((p0 &&& (2147483647 : Int32)) &&& (15 : Int32)) p2)), .unset] [])) _
        refine XS.iconst X59.here hx rfl (hb hby at_66) ?_
        show Steps p.tables e below (T59.setTop (mkF m 67 #[.val (.int p0), .val (.int p1), .val (.int p2), .val (.int p3), .val (.int (p0 &&& (2147483647 : Int32))), .val (.int (((p0 &&& (2147483647 : Int32)) >>> ((4 : Int32) &&& 31)) &&& (15 : Int32))), .val (.int ((p0 &&& (2147483647 : Int32)) &&& (15 : Int32))), .val (.int (own_pick (p3 &&& (3 : Int32)) (((p0 &&& (2147483647 : Int32)) >>> ((4 : Int32) &&& 31)) &&& (15 : Int32)) p1)), .val (.int (own_pick ((p3 >>> ((2 : Int32) &&& 31)) &&& (3 : Int32)) ((p0 &&& (2147483647 : Int32)) &&& (15 : Int32)) p2)), .unset] [(.int (1 : Int32))])) _
        refine XS.goto X59.here hx rfl (pc0 := 67) (pc' := 71) rfl (hb hby at_67) (by decide) (by decide) ?_
        show Steps p.tables e below (T59.setTop (mkF m 71 #[.val (.int p0), .val (.int p1), .val (.int p2), .val (.int p3), .val (.int (p0 &&& (2147483647 : Int32))), .val (.int (((p0 &&& (2147483647 : Int32)) >>> ((4 : Int32) &&& 31)) &&& (15 : Int32))), .val (.int ((p0 &&& (2147483647 : Int32)) &&& (15 : Int32))), .val (.int (own_pick (p3 &&& (3 : Int32)) (((p0 &&& (2147483647 : Int32)) >>> ((4 : Int32) &&& 31)) &&& (15 : Int32)) p1)), .val (.int (own_pick ((p3 >>> ((2 : Int32) &&& 31)) &&& (3 : Int32)) ((p0 &&& (2147483647 : Int32)) &&& (15 : Int32)) p2)), .unset] [(.int (1 : Int32))])) _
        refine XS.istore X59.here hx rfl (hb hby at_71) rfl (l' := #[.val (.int p0), .val (.int p1), .val (.int p2), .val (.int p3), .val (.int (p0 &&& (2147483647 : Int32))), .val (.int (((p0 &&& (2147483647 : Int32)) >>> ((4 : Int32) &&& 31)) &&& (15 : Int32))), .val (.int ((p0 &&& (2147483647 : Int32)) &&& (15 : Int32))), .val (.int (own_pick (p3 &&& (3 : Int32)) (((p0 &&& (2147483647 : Int32)) >>> ((4 : Int32) &&& 31)) &&& (15 : Int32)) p1)), .val (.int (own_pick ((p3 >>> ((2 : Int32) &&& 31)) &&& (3 : Int32)) ((p0 &&& (2147483647 : Int32)) &&& (15 : Int32)) p2)), .val (.int (1 : Int32))]) rfl ?_
        show Steps p.tables e below (T59.setTop (mkF m 73 #[.val (.int p0), .val (.int p1), .val (.int p2), .val (.int p3), .val (.int (p0 &&& (2147483647 : Int32))), .val (.int (((p0 &&& (2147483647 : Int32)) >>> ((4 : Int32) &&& 31)) &&& (15 : Int32))), .val (.int ((p0 &&& (2147483647 : Int32)) &&& (15 : Int32))), .val (.int (own_pick (p3 &&& (3 : Int32)) (((p0 &&& (2147483647 : Int32)) >>> ((4 : Int32) &&& 31)) &&& (15 : Int32)) p1)), .val (.int (own_pick ((p3 >>> ((2 : Int32) &&& 31)) &&& (3 : Int32)) ((p0 &&& (2147483647 : Int32)) &&& (15 : Int32)) p2)), .val (.int (1 : Int32))] [])) _
        refine XS.iload X59.here hx rfl (hb hby at_73) rfl ?_
        show Steps p.tables e below (T59.setTop (mkF m 75 #[.val (.int p0), .val (.int p1), .val (.int p2), .val (.int p3), .val (.int (p0 &&& (2147483647 : Int32))), .val (.int (((p0 &&& (2147483647 : Int32)) >>> ((4 : Int32) &&& 31)) &&& (15 : Int32))), .val (.int ((p0 &&& (2147483647 : Int32)) &&& (15 : Int32))), .val (.int (own_pick (p3 &&& (3 : Int32)) (((p0 &&& (2147483647 : Int32)) >>> ((4 : Int32) &&& 31)) &&& (15 : Int32)) p1)), .val (.int (own_pick ((p3 >>> ((2 : Int32) &&& 31)) &&& (3 : Int32)) ((p0 &&& (2147483647 : Int32)) &&& (15 : Int32)) p2)), .val (.int (1 : Int32))] [(.int (p0 &&& (2147483647 : Int32)))])) _
        refine XS.iload X59.here hx rfl (hb hby at_75) rfl ?_
        show Steps p.tables e below (T59.setTop (mkF m 77 #[.val (.int p0), .val (.int p1), .val (.int p2), .val (.int p3), .val (.int (p0 &&& (2147483647 : Int32))), .val (.int (((p0 &&& (2147483647 : Int32)) >>> ((4 : Int32) &&& 31)) &&& (15 : Int32))), .val (.int ((p0 &&& (2147483647 : Int32)) &&& (15 : Int32))), .val (.int (own_pick (p3 &&& (3 : Int32)) (((p0 &&& (2147483647 : Int32)) >>> ((4 : Int32) &&& 31)) &&& (15 : Int32)) p1)), .val (.int (own_pick ((p3 >>> ((2 : Int32) &&& 31)) &&& (3 : Int32)) ((p0 &&& (2147483647 : Int32)) &&& (15 : Int32)) p2)), .val (.int (1 : Int32))] [(.int (own_pick (p3 &&& (3 : Int32)) (((p0 &&& (2147483647 : Int32)) >>> ((4 : Int32) &&& 31)) &&& (15 : Int32)) p1)), (.int (p0 &&& (2147483647 : Int32)))])) _
        refine XS.iload X59.here hx rfl (hb hby at_77) rfl ?_
        exact kt
      obtain ⟨_, _, ⟨T63, L63, k63, n63⟩, -, X63, ⟨Lc63, hQ63, l63, y63, z63⟩, st63⟩ := Jvm.LawKit.callS X59 hx (y := (⟨"com/example/hemawire/hemawire/lis/LinkCodes", "isChecksum", "(III)Z"⟩ : MethodName)) hown (mvT hZ (hw _ (List.mem_of_getElem? (i := 11) rfl))) (mvT hZ (hw _ (List.mem_of_getElem? (i := 12) rfl))) (mvT hZ (hw _ (List.mem_of_getElem? (i := 13) rfl))) (mvT hZ (hw _ (List.mem_of_getElem? (i := 14) rfl))) (by decide) (backOf (W := 0) (rm_ck2 l Z a0 hw [] ((p0 &&& (2147483647 : Int32))) ((own_pick (p3 &&& (3 : Int32)) (((p0 &&& (2147483647 : Int32)) >>> ((4 : Int32) &&& 31)) &&& (15 : Int32)) p1)) ((own_pick ((p3 >>> ((2 : Int32) &&& 31)) &&& (3 : Int32)) ((p0 &&& (2147483647 : Int32)) &&& (15 : Int32)) p2)) ((((p0 &&& (2147483647 : Int32)) >>> ((4 : Int32) &&& 31)) &&& (15 : Int32))) (((p0 &&& (2147483647 : Int32)) &&& (15 : Int32))) ax kx h0 n0 O0 G0 G1 (own_bits p0).1 (own_bits p0).2 (own_mask15 _) (own_mask15 _) hc57 hc61) hZ (hw _ (List.mem_of_getElem? (i := 14) rfl)) (hw _ (List.mem_of_getElem? (i := 13) rfl)) (by decide) (by decide)) (g := (mkF m 79 #[.val (.int p0), .val (.int p1), .val (.int p2), .val (.int p3), .val (.int (p0 &&& (2147483647 : Int32))), .val (.int (((p0 &&& (2147483647 : Int32)) >>> ((4 : Int32) &&& 31)) &&& (15 : Int32))), .val (.int ((p0 &&& (2147483647 : Int32)) &&& (15 : Int32))), .val (.int (own_pick (p3 &&& (3 : Int32)) (((p0 &&& (2147483647 : Int32)) >>> ((4 : Int32) &&& 31)) &&& (15 : Int32)) p1)), .val (.int (own_pick ((p3 >>> ((2 : Int32) &&& 31)) &&& (3 : Int32)) ((p0 &&& (2147483647 : Int32)) &&& (15 : Int32)) p2)), .val (.int (1 : Int32))] [(.int (own_pick ((p3 >>> ((2 : Int32) &&& 31)) &&& (3 : Int32)) ((p0 &&& (2147483647 : Int32)) &&& (15 : Int32)) p2)), (.int (own_pick (p3 &&& (3 : Int32)) (((p0 &&& (2147483647 : Int32)) >>> ((4 : Int32) &&& 31)) &&& (15 : Int32)) p1)), (.int (p0 &&& (2147483647 : Int32)))])) rfl (by rw [hml]; rfl) (argsL := [(.int (p0 &&& (2147483647 : Int32))), (.int (own_pick (p3 &&& (3 : Int32)) (((p0 &&& (2147483647 : Int32)) >>> ((4 : Int32) &&& 31)) &&& (15 : Int32)) p1)), (.int (own_pick ((p3 >>> ((2 : Int32) &&& 31)) &&& (3 : Int32)) ((p0 &&& (2147483647 : Int32)) &&& (15 : Int32)) p2))]) (rest := []) (lenOf pd_9 rfl) rfl (by show 2 * 0 + _ ≤ _; exact Nat.le_of_eq rfl) (hb hby at_79) (fun _ _ => ⟨rfl, e59, (by decide : 0 + 0 ≤ _), (by decide : 0 + 0 ≤ _)⟩)
      dsimp only [Pt.U, Pt.locs, Pt.cells, Pt.slots] at X63 l63 y63 z63 st63 hQ63
      subst l63 y63 z63
      obtain ⟨rfl, M63, e63⟩ := hQ63
      have N63 := Fr.app N59 M63
      have pre64 : ∀ t, Steps p.tables e below (T63.setTop (mkF m 82 #[.val (.int p0), .val (.int p1), .val (.int p2), .val (.int p3), .val (.int (p0 &&& (2147483647 : Int32))), .val (.int (((p0 &&& (2147483647 : Int32)) >>> ((4 : Int32) &&& 31)) &&& (15 : Int32))), .val (.int ((p0 &&& (2147483647 : Int32)) &&& (15 : Int32))), .val (.int (own_pick (p3 &&& (3 : Int32)) (((p0 &&& (2147483647 : Int32)) >>> ((4 : Int32) &&& 31)) &&& (15 : Int32)) p1)), .val (.int (own_pick ((p3 >>> ((2 : Int32) &&& 31)) &&& (3 : Int32)) ((p0 &&& (2147483647 : Int32)) &&& (15 : Int32)) p2)), .val (.int (1 : Int32))] [(.int (1 : Int32))])) t → Steps p.tables e below (s₁.setTop (entryFrame m #[(.int p0), (.int p1), (.int p2), (.int p3)] maxLocals)) t := fun t kt => pre62 _ (st63 _ kt)
      have pre65 : ∀ t, Steps p.tables e below (T63.setTop (mkF m 92 #[.val (.int p0), .val (.int p1), .val (.int p2), .val (.int p3), .val (.int (p0 &&& (2147483647 : Int32))), .val (.int (((p0 &&& (2147483647 : Int32)) >>> ((4 : Int32) &&& 31)) &&& (15 : Int32))), .val (.int ((p0 &&& (2147483647 : Int32)) &&& (15 : Int32))), .val (.int (own_pick (p3 &&& (3 : Int32)) (((p0 &&& (2147483647 : Int32)) >>> ((4 : Int32) &&& 31)) &&& (15 : Int32)) p1)), .val (.int (own_pick ((p3 >>> ((2 : Int32) &&& 31)) &&& (3 : Int32)) ((p0 &&& (2147483647 : Int32)) &&& (15 : Int32)) p2)), .val (.int (1 : Int32))] [(.int (1 : Int32))])) t → Steps p.tables e below (s₁.setTop (entryFrame m #[(.int p0), (.int p1), (.int p2), (.int p3)] maxLocals)) t := fun t kt => by
        refine pre64 _ ?_
        show Steps p.tables e below (T63.setTop (mkF m 82 #[.val (.int p0), .val (.int p1), .val (.int p2), .val (.int p3), .val (.int (p0 &&& (2147483647 : Int32))), .val (.int (((p0 &&& (2147483647 : Int32)) >>> ((4 : Int32) &&& 31)) &&& (15 : Int32))), .val (.int ((p0 &&& (2147483647 : Int32)) &&& (15 : Int32))), .val (.int (own_pick (p3 &&& (3 : Int32)) (((p0 &&& (2147483647 : Int32)) >>> ((4 : Int32) &&& 31)) &&& (15 : Int32)) p1)), .val (.int (own_pick ((p3 >>> ((2 : Int32) &&& 31)) &&& (3 : Int32)) ((p0 &&& (2147483647 : Int32)) &&& (15 : Int32)) p2)), .val (.int (1 : Int32))] [(.int (1 : Int32))])) _
        refine XS.iload X63.here hx rfl (hb hby at_82) rfl ?_
        show Steps p.tables e below (T63.setTop (mkF m 84 #[.val (.int p0), .val (.int p1), .val (.int p2), .val (.int p3), .val (.int (p0 &&& (2147483647 : Int32))), .val (.int (((p0 &&& (2147483647 : Int32)) >>> ((4 : Int32) &&& 31)) &&& (15 : Int32))), .val (.int ((p0 &&& (2147483647 : Int32)) &&& (15 : Int32))), .val (.int (own_pick (p3 &&& (3 : Int32)) (((p0 &&& (2147483647 : Int32)) >>> ((4 : Int32) &&& 31)) &&& (15 : Int32)) p1)), .val (.int (own_pick ((p3 >>> ((2 : Int32) &&& 31)) &&& (3 : Int32)) ((p0 &&& (2147483647 : Int32)) &&& (15 : Int32)) p2)), .val (.int (1 : Int32))] [(.int (1 : Int32)), (.int (1 : Int32))])) _
        refine XS.icmpNo X63.here hx rfl (hb hby at_84) rfl (XT.ii_ne_f (by decide)) ?_
        show Steps p.tables e below (T63.setTop (mkF m 87 #[.val (.int p0), .val (.int p1), .val (.int p2), .val (.int p3), .val (.int (p0 &&& (2147483647 : Int32))), .val (.int (((p0 &&& (2147483647 : Int32)) >>> ((4 : Int32) &&& 31)) &&& (15 : Int32))), .val (.int ((p0 &&& (2147483647 : Int32)) &&& (15 : Int32))), .val (.int (own_pick (p3 &&& (3 : Int32)) (((p0 &&& (2147483647 : Int32)) >>> ((4 : Int32) &&& 31)) &&& (15 : Int32)) p1)), .val (.int (own_pick ((p3 >>> ((2 : Int32) &&& 31)) &&& (3 : Int32)) ((p0 &&& (2147483647 : Int32)) &&& (15 : Int32)) p2)), .val (.int (1 : Int32))] [])) _
        refine XS.iconst X63.here hx rfl (hb hby at_87) ?_
        show Steps p.tables e below (T63.setTop (mkF m 88 #[.val (.int p0), .val (.int p1), .val (.int p2), .val (.int p3), .val (.int (p0 &&& (2147483647 : Int32))), .val (.int (((p0 &&& (2147483647 : Int32)) >>> ((4 : Int32) &&& 31)) &&& (15 : Int32))), .val (.int ((p0 &&& (2147483647 : Int32)) &&& (15 : Int32))), .val (.int (own_pick (p3 &&& (3 : Int32)) (((p0 &&& (2147483647 : Int32)) >>> ((4 : Int32) &&& 31)) &&& (15 : Int32)) p1)), .val (.int (own_pick ((p3 >>> ((2 : Int32) &&& 31)) &&& (3 : Int32)) ((p0 &&& (2147483647 : Int32)) &&& (15 : Int32)) p2)), .val (.int (1 : Int32))] [(.int (1 : Int32))])) _
        refine XS.goto X63.here hx rfl (pc0 := 88) (pc' := 92) rfl (hb hby at_88) (by decide) (by decide) ?_
        exact kt
      obtain ⟨fs, hr, hrun, hended, hW, hsame⟩ := X63.leave (v := some (.int (1 : Int32))) (fun h => by rw [Bd.returns] at h; cases h)
      refine ⟨_, _, pre65 _ (retN X63 hx (t := .boolean) Bd.returns (by simp) (hb hby at_92) hr), hrun, hended, _, _, rfl, ?_, ⟨_, rfl⟩, hW, hsame.mono (by decide) (by decide)⟩
      show Q_law Z p0 p1 p2 p3 ax kx h0 n0 _ T63.heap _
      rw [e63]
      exact ⟨rfl, N63⟩
    · have pre66 : ∀ t, Steps p.tables e below (T59.setTop (mkF m 79 #[.val (.int p0), .val (.int p1), .val (.int p2), .val (.int p3), .val (.int (p0 &&& (2147483647 : Int32))), .val (.int (((p0 &&& (2147483647 : Int32)) >>> ((4 : Int32) &&& 31)) &&& (15 : Int32))), .val (.int ((p0 &&& (2147483647 : Int32)) &&& (15 : Int32))), .val (.int (own_pick (p3 &&& (3 : Int32)) (((p0 &&& (2147483647 : Int32)) >>> ((4 : Int32) &&& 31)) &&& (15 : Int32)) p1)), .val (.int (own_pick ((p3 >>> ((2 : Int32) &&& 31)) &&& (3 : Int32)) ((p0 &&& (2147483647 : Int32)) &&& (15 : Int32)) p2)), .val (.int (0 : Int32))] [(.int (own_pick ((p3 >>> ((2 : Int32) &&& 31)) &&& (3 : Int32)) ((p0 &&& (2147483647 : Int32)) &&& (15 : Int32)) p2)), (.int (own_pick (p3 &&& (3 : Int32)) (((p0 &&& (2147483647 : Int32)) >>> ((4 : Int32) &&& 31)) &&& (15 : Int32)) p1)), (.int (p0 &&& (2147483647 : Int32)))])) t → Steps p.tables e below (s₁.setTop (entryFrame m #[(.int p0), (.int p1), (.int p2), (.int p3)] maxLocals)) t := fun t kt => by
        refine pre60 _ ?_
        show Steps p.tables e below (T59.setTop (mkF m 63 #[.val (.int p0), .val (.int p1), .val (.int p2), .val (.int p3), .val (.int (p0 &&& (2147483647 : Int32))), .val (.int (((p0 &&& (2147483647 : Int32)) >>> ((4 : Int32) &&& 31)) &&& (15 : Int32))), .val (.int ((p0 &&& (2147483647 : Int32)) &&& (15 : Int32))), .val (.int (own_pick (p3 &&& (3 : Int32)) (((p0 &&& (2147483647 : Int32)) >>> ((4 : Int32) &&& 31)) &&& (15 : Int32)) p1)), .val (.int (own_pick ((p3 >>> ((2 : Int32) &&& 31)) &&& (3 : Int32)) ((p0 &&& (2147483647 : Int32)) &&& (15 : Int32)) p2)), .unset] [(.int (own_hexUp ((p0 &&& (2147483647 : Int32)) &&& (15 : Int32)))), (.int (own_pick ((p3 >>> ((2 : Int32) &&& 31)) &&& (3 : Int32)) ((p0 &&& (2147483647 : Int32)) &&& (15 : Int32)) p2))])) _
        refine XS.icmpYes X59.here hx rfl (pc0 := 63) (pc' := 70) rfl (hb hby at_63) rfl (XT.ii_ne_t hc61) (by decide) (by decide) ?_
        show Steps p.tables e below (T59.setTop (mkF m 70 #[.val (.int p0), .val (.int p1), .val (.int p2), .val (.int p3), .val (.int (p0 &&& (2147483647 : Int32))), .val (.int (((p0 &&& (2147483647 : Int32)) >>> ((4 : Int32) &&& 31)) &&& (15 : Int32))), .val (.int ((p0 &&& (2147483647 : Int32)) &&& (15 : Int32))), .val (.int (own_pick (p3 &&& (3 : Int32)) (((p0 &&& (2147483647 : Int32)) >>> ((4 : Int32) &&& 31)) &&& (15 : Int32)) p1)), .val (.int (own_pick ((p3 >>> ((2 : Int32) &&& 31)) &&& (3 : Int32)) ((p0 &&& (2147483647 : Int32)) &&& (15 : Int32)) p2)), .unset] [])) _
        refine XS.iconst X59.here hx rfl (hb hby at_70) ?_
        show Steps p.tables e below (T59.setTop (mkF m 71 #[.val (.int p0), .val (.int p1), .val (.int p2), .val (.int p3), .val (.int (p0 &&& (2147483647 : Int32))), .val (.int (((p0 &&& (2147483647 : Int32)) >>> ((4 : Int32) &&& 31)) &&& (15 : Int32))), .val (.int ((p0 &&& (2147483647 : Int32)) &&& (15 : Int32))), .val (.int (own_pick (p3 &&& (3 : Int32)) (((p0 &&& (2147483647 : Int32)) >>> ((4 : Int32) &&& 31)) &&& (15 : Int32)) p1)), .val (.int (own_pick ((p3 >>> ((2 : Int32) &&& 31)) &&& (3 : Int32)) ((p0 &&& (2147483647 : Int32)) &&& (15 : Int32)) p2)), .unset] [(.int (0 : Int32))])) _
        refine XS.istore X59.here hx rfl (hb hby at_71) rfl (l' := #[.val (.int p0), .val (.int p1), .val (.int p2), .val (.int p3), .val (.int (p0 &&& (2147483647 : Int32))), .val (.int (((p0 &&& (2147483647 : Int32)) >>> ((4 : Int32) &&& 31)) &&& (15 : Int32))), .val (.int ((p0 &&& (2147483647 : Int32)) &&& (15 : Int32))), .val (.int (own_pick (p3 &&& (3 : Int32)) (((p0 &&& (2147483647 : Int32)) >>> ((4 : Int32) &&& 31)) &&& (15 : Int32)) p1)), .val (.int (own_pick ((p3 >>> ((2 : Int32) &&& 31)) &&& (3 : Int32)) ((p0 &&& (2147483647 : Int32)) &&& (15 : Int32)) p2)), .val (.int (0 : Int32))]) rfl ?_
        show Steps p.tables e below (T59.setTop (mkF m 73 #[.val (.int p0), .val (.int p1), .val (.int p2), .val (.int p3), .val (.int (p0 &&& (2147483647 : Int32))), .val (.int (((p0 &&& (2147483647 : Int32)) >>> ((4 : Int32) &&& 31)) &&& (15 : Int32))), .val (.int ((p0 &&& (2147483647 : Int32)) &&& (15 : Int32))), .val (.int (own_pick (p3 &&& (3 : Int32)) (((p0 &&& (2147483647 : Int32)) >>> ((4 : Int32) &&& 31)) &&& (15 : Int32)) p1)), .val (.int (own_pick ((p3 >>> ((2 : Int32) &&& 31)) &&& (3 : Int32)) ((p0 &&& (2147483647 : Int32)) &&& (15 : Int32)) p2)), .val (.int (0 : Int32))] [])) _
        refine XS.iload X59.here hx rfl (hb hby at_73) rfl ?_
        show Steps p.tables e below (T59.setTop (mkF m 75 #[.val (.int p0), .val (.int p1), .val (.int p2), .val (.int p3), .val (.int (p0 &&& (2147483647 : Int32))), .val (.int (((p0 &&& (2147483647 : Int32)) >>> ((4 : Int32) &&& 31)) &&& (15 : Int32))), .val (.int ((p0 &&& (2147483647 : Int32)) &&& (15 : Int32))), .val (.int (own_pick (p3 &&& (3 : Int32)) (((p0 &&& (2147483647 : Int32)) >>> ((4 : Int32) &&& 31)) &&& (15 : Int32)) p1)), .val (.int (own_pick ((p3 >>> ((2 : Int32) &&& 31)) &&& (3 : Int32)) ((p0 &&& (2147483647 : Int32)) &&& (15 : Int32)) p2)), .val (.int (0 : Int32))] [(.int (p0 &&& (2147483647 : Int32)))])) _
        refine XS.iload X59.here hx rfl (hb hby at_75) rfl ?_
        show Steps p.tables e below (T59.setTop (mkF m 77 #[.val (.int p0), .val (.int p1), .val (.int p2), .val (.int p3), .val (.int (p0 &&& (2147483647 : Int32))), .val (.int (((p0 &&& (2147483647 : Int32)) >>> ((4 : Int32) &&& 31)) &&& (15 : Int32))), .val (.int ((p0 &&& (2147483647 : Int32)) &&& (15 : Int32))), .val (.int (own_pick (p3 &&& (3 : Int32)) (((p0 &&& (2147483647 : Int32)) >>> ((4 : Int32) &&& 31)) &&& (15 : Int32)) p1)), .val (.int (own_pick ((p3 >>> ((2 : Int32) &&& 31)) &&& (3 : Int32)) ((p0 &&& (2147483647 : Int32)) &&& (15 : Int32)) p2)), .val (.int (0 : Int32))] [(.int (own_pick (p3 &&& (3 : Int32)) (((p0 &&& (2147483647 : Int32)) >>> ((4 : Int32) &&& 31)) &&& (15 : Int32)) p1)), (.int (p0 &&& (2147483647 : Int32)))])) _
        refine XS.iload X59.here hx rfl (hb hby at_77) rfl ?_
        exact kt
      obtain ⟨_, _, ⟨T67, L67, k67, n67⟩, -, X67, ⟨Lc67, hQ67, l67, y67, z67⟩, st67⟩ := Jvm.LawKit.callS X59 hx (y := (⟨"com/example/hemawire/hemawire/lis/LinkCodes", "isChecksum", "(III)Z"⟩ : MethodName)) hown (mvT hZ (hw _ (List.mem_of_getElem? (i := 11) rfl))) (mvT hZ (hw _ (List.mem_of_getElem? (i := 12) rfl))) (mvT hZ (hw _ (List.mem_of_getElem? (i := 13) rfl))) (mvT hZ (hw _ (List.mem_of_getElem? (i := 14) rfl))) (by decide) (backOf (W := 0) (rm_ck1 l Z a0 hw [] ((p0 &&& (2147483647 : Int32))) ((own_pick (p3 &&& (3 : Int32)) (((p0 &&& (2147483647 : Int32)) >>> ((4 : Int32) &&& 31)) &&& (15 : Int32)) p1)) ((own_pick ((p3 >>> ((2 : Int32) &&& 31)) &&& (3 : Int32)) ((p0 &&& (2147483647 : Int32)) &&& (15 : Int32)) p2)) ((((p0 &&& (2147483647 : Int32)) >>> ((4 : Int32) &&& 31)) &&& (15 : Int32))) (((p0 &&& (2147483647 : Int32)) &&& (15 : Int32))) ax kx h0 n0 O0 G0 G1 (own_bits p0).1 (own_bits p0).2 (own_mask15 _) (own_mask15 _) hc57 hc61) hZ (hw _ (List.mem_of_getElem? (i := 14) rfl)) (hw _ (List.mem_of_getElem? (i := 13) rfl)) (by decide) (by decide)) (g := (mkF m 79 #[.val (.int p0), .val (.int p1), .val (.int p2), .val (.int p3), .val (.int (p0 &&& (2147483647 : Int32))), .val (.int (((p0 &&& (2147483647 : Int32)) >>> ((4 : Int32) &&& 31)) &&& (15 : Int32))), .val (.int ((p0 &&& (2147483647 : Int32)) &&& (15 : Int32))), .val (.int (own_pick (p3 &&& (3 : Int32)) (((p0 &&& (2147483647 : Int32)) >>> ((4 : Int32) &&& 31)) &&& (15 : Int32)) p1)), .val (.int (own_pick ((p3 >>> ((2 : Int32) &&& 31)) &&& (3 : Int32)) ((p0 &&& (2147483647 : Int32)) &&& (15 : Int32)) p2)), .val (.int (0 : Int32))] [(.int (own_pick ((p3 >>> ((2 : Int32) &&& 31)) &&& (3 : Int32)) ((p0 &&& (2147483647 : Int32)) &&& (15 : Int32)) p2)), (.int (own_pick (p3 &&& (3 : Int32)) (((p0 &&& (2147483647 : Int32)) >>> ((4 : Int32) &&& 31)) &&& (15 : Int32)) p1)), (.int (p0 &&& (2147483647 : Int32)))])) rfl (by rw [hml]; rfl) (argsL := [(.int (p0 &&& (2147483647 : Int32))), (.int (own_pick (p3 &&& (3 : Int32)) (((p0 &&& (2147483647 : Int32)) >>> ((4 : Int32) &&& 31)) &&& (15 : Int32)) p1)), (.int (own_pick ((p3 >>> ((2 : Int32) &&& 31)) &&& (3 : Int32)) ((p0 &&& (2147483647 : Int32)) &&& (15 : Int32)) p2))]) (rest := []) (lenOf pd_9 rfl) rfl (by show 2 * 0 + _ ≤ _; exact Nat.le_of_eq rfl) (hb hby at_79) (fun _ _ => ⟨rfl, e59, (by decide : 0 + 0 ≤ _), (by decide : 0 + 0 ≤ _)⟩)
      dsimp only [Pt.U, Pt.locs, Pt.cells, Pt.slots] at X67 l67 y67 z67 st67 hQ67
      subst l67 y67 z67
      obtain ⟨rfl, M67, e67⟩ := hQ67
      have N67 := Fr.app N59 M67
      have pre68 : ∀ t, Steps p.tables e below (T67.setTop (mkF m 82 #[.val (.int p0), .val (.int p1), .val (.int p2), .val (.int p3), .val (.int (p0 &&& (2147483647 : Int32))), .val (.int (((p0 &&& (2147483647 : Int32)) >>> ((4 : Int32) &&& 31)) &&& (15 : Int32))), .val (.int ((p0 &&& (2147483647 : Int32)) &&& (15 : Int32))), .val (.int (own_pick (p3 &&& (3 : Int32)) (((p0 &&& (2147483647 : Int32)) >>> ((4 : Int32) &&& 31)) &&& (15 : Int32)) p1)), .val (.int (own_pick ((p3 >>> ((2 : Int32) &&& 31)) &&& (3 : Int32)) ((p0 &&& (2147483647 : Int32)) &&& (15 : Int32)) p2)), .val (.int (0 : Int32))] [(.int (0 : Int32))])) t → Steps p.tables e below (s₁.setTop (entryFrame m #[(.int p0), (.int p1), (.int p2), (.int p3)] maxLocals)) t := fun t kt => pre66 _ (st67 _ kt)
      have pre69 : ∀ t, Steps p.tables e below (T67.setTop (mkF m 92 #[.val (.int p0), .val (.int p1), .val (.int p2), .val (.int p3), .val (.int (p0 &&& (2147483647 : Int32))), .val (.int (((p0 &&& (2147483647 : Int32)) >>> ((4 : Int32) &&& 31)) &&& (15 : Int32))), .val (.int ((p0 &&& (2147483647 : Int32)) &&& (15 : Int32))), .val (.int (own_pick (p3 &&& (3 : Int32)) (((p0 &&& (2147483647 : Int32)) >>> ((4 : Int32) &&& 31)) &&& (15 : Int32)) p1)), .val (.int (own_pick ((p3 >>> ((2 : Int32) &&& 31)) &&& (3 : Int32)) ((p0 &&& (2147483647 : Int32)) &&& (15 : Int32)) p2)), .val (.int (0 : Int32))] [(.int (1 : Int32))])) t → Steps p.tables e below (s₁.setTop (entryFrame m #[(.int p0), (.int p1), (.int p2), (.int p3)] maxLocals)) t := fun t kt => by
        refine pre68 _ ?_
        show Steps p.tables e below (T67.setTop (mkF m 82 #[.val (.int p0), .val (.int p1), .val (.int p2), .val (.int p3), .val (.int (p0 &&& (2147483647 : Int32))), .val (.int (((p0 &&& (2147483647 : Int32)) >>> ((4 : Int32) &&& 31)) &&& (15 : Int32))), .val (.int ((p0 &&& (2147483647 : Int32)) &&& (15 : Int32))), .val (.int (own_pick (p3 &&& (3 : Int32)) (((p0 &&& (2147483647 : Int32)) >>> ((4 : Int32) &&& 31)) &&& (15 : Int32)) p1)), .val (.int (own_pick ((p3 >>> ((2 : Int32) &&& 31)) &&& (3 : Int32)) ((p0 &&& (2147483647 : Int32)) &&& (15 : Int32)) p2)), .val (.int (0 : Int32))] [(.int (0 : Int32))])) _
        refine XS.iload X67.here hx rfl (hb hby at_82) rfl ?_
        show Steps p.tables e below (T67.setTop (mkF m 84 #[.val (.int p0), .val (.int p1), .val (.int p2), .val (.int p3), .val (.int (p0 &&& (2147483647 : Int32))), .val (.int (((p0 &&& (2147483647 : Int32)) >>> ((4 : Int32) &&& 31)) &&& (15 : Int32))), .val (.int ((p0 &&& (2147483647 : Int32)) &&& (15 : Int32))), .val (.int (own_pick (p3 &&& (3 : Int32)) (((p0 &&& (2147483647 : Int32)) >>> ((4 : Int32) &&& 31)) &&& (15 : Int32)) p1)), .val (.int (own_pick ((p3 >>> ((2 : Int32) &&& 31)) &&& (3 : Int32)) ((p0 &&& (2147483647 : Int32)) &&& (15 : Int32)) p2)), .val (.int (0 : Int32))] [(.int (0 : Int32)), (.int (0 : Int32))])) _
        refine XS.icmpNo X67.here hx rfl (hb hby at_84) rfl (XT.ii_ne_f (by decide)) ?_
        show Steps p.tables e below (T67.setTop (mkF m 87 #[.val (.int p0), .val (.int p1), .val (.int p2), .val (.int p3), .val (.int (p0 &&& (2147483647 : Int32))), .val (.int (((p0 &&& (2147483647 : Int32)) >>> ((4 : Int32) &&& 31)) &&& (15 : Int32))), .val (.int ((p0 &&& (2147483647 : Int32)) &&& (15 : Int32))), .val (.int (own_pick (p3 &&& (3 : Int32)) (((p0 &&& (2147483647 : Int32)) >>> ((4 : Int32) &&& 31)) &&& (15 : Int32)) p1)), .val (.int (own_pick ((p3 >>> ((2 : Int32) &&& 31)) &&& (3 : Int32)) ((p0 &&& (2147483647 : Int32)) &&& (15 : Int32)) p2)), .val (.int (0 : Int32))] [])) _
        refine XS.iconst X67.here hx rfl (hb hby at_87) ?_
        show Steps p.tables e below (T67.setTop (mkF m 88 #[.val (.int p0), .val (.int p1), .val (.int p2), .val (.int p3), .val (.int (p0 &&& (2147483647 : Int32))), .val (.int (((p0 &&& (2147483647 : Int32)) >>> ((4 : Int32) &&& 31)) &&& (15 : Int32))), .val (.int ((p0 &&& (2147483647 : Int32)) &&& (15 : Int32))), .val (.int (own_pick (p3 &&& (3 : Int32)) (((p0 &&& (2147483647 : Int32)) >>> ((4 : Int32) &&& 31)) &&& (15 : Int32)) p1)), .val (.int (own_pick ((p3 >>> ((2 : Int32) &&& 31)) &&& (3 : Int32)) ((p0 &&& (2147483647 : Int32)) &&& (15 : Int32)) p2)), .val (.int (0 : Int32))] [(.int (1 : Int32))])) _
        refine XS.goto X67.here hx rfl (pc0 := 88) (pc' := 92) rfl (hb hby at_88) (by decide) (by decide) ?_
        exact kt
      obtain ⟨fs, hr, hrun, hended, hW, hsame⟩ := X67.leave (v := some (.int (1 : Int32))) (fun h => by rw [Bd.returns] at h; cases h)
      refine ⟨_, _, pre69 _ (retN X67 hx (t := .boolean) Bd.returns (by simp) (hb hby at_92) hr), hrun, hended, _, _, rfl, ?_, ⟨_, rfl⟩, hW, hsame.mono (by decide) (by decide)⟩
      show Q_law Z p0 p1 p2 p3 ax kx h0 n0 _ T67.heap _
      rw [e67]
      exact ⟨rfl, N67⟩
  · have pre70 : ∀ t, Steps p.tables e below (T55.setTop (mkF m 79 #[.val (.int p0), .val (.int p1), .val (.int p2), .val (.int p3), .val (.int (p0 &&& (2147483647 : Int32))), .val (.int (((p0 &&& (2147483647 : Int32)) >>> ((4 : Int32) &&& 31)) &&& (15 : Int32))), .val (.int ((p0 &&& (2147483647 : Int32)) &&& (15 : Int32))), .val (.int (own_pick (p3 &&& (3 : Int32)) (((p0 &&& (2147483647 : Int32)) >>> ((4 : Int32) &&& 31)) &&& (15 : Int32)) p1)), .val (.int (own_pick ((p3 >>> ((2 : Int32) &&& 31)) &&& (3 : Int32)) ((p0 &&& (2147483647 : Int32)) &&& (15 : Int32)) p2)), .val (.int (0 : Int32))] [(.int (own_pick ((p3 >>> ((2 : Int32) &&& 31)) &&& (3 : Int32)) ((p0 &&& (2147483647 : Int32)) &&& (15 : Int32)) p2)), (.int (own_pick (p3 &&& (3 : Int32)) (((p0 &&& (2147483647 : Int32)) >>> ((4 : Int32) &&& 31)) &&& (15 : Int32)) p1)), (.int (p0 &&& (2147483647 : Int32)))])) t → Steps p.tables e below (s₁.setTop (entryFrame m #[(.int p0), (.int p1), (.int p2), (.int p3)] maxLocals)) t := fun t kt => by
      refine pre56 _ ?_
      show Steps p.tables e below (T55.setTop (mkF m 53 #[.val (.int p0), .val (.int p1), .val (.int p2), .val (.int p3), .val (.int (p0 &&& (2147483647 : Int32))), .val (.int (((p0 &&& (2147483647 : Int32)) >>> ((4 : Int32) &&& 31)) &&& (15 : Int32))), .val (.int ((p0 &&& (2147483647 : Int32)) &&& (15 : Int32))), .val (.int (own_pick (p3 &&& (3 : Int32)) (((p0 &&& (2147483647 : Int32)) >>> ((4 : Int32) &&& 31)) &&& (15 : Int32)) p1)), .val (.int (own_pick ((p3 >>> ((2 : Int32) &&& 31)) &&& (3 : Int32)) ((p0 &&& (2147483647 : Int32)) &&& (15 : Int32)) p2)), .unset] [(.int (own_hexUp (((p0 &&& (2147483647 : Int32)) >>> ((4 : Int32) &&& 31)) &&& (15 : Int32)))), (.int (own_pick (p3 &&& (3 : Int32)) (((p0 &&& (2147483647 : Int32)) >>> ((4 : Int32) &&& 31)) &&& (15 : Int32)) p1))])) _
      refine XS.icmpYes X55.here hx rfl (pc0 := 53) (pc' := 70) rfl (hb hby at_53) rfl (XT.ii_ne_t hc57) (by decide) (by decide) ?_
      show Steps p.tables e below (T55.setTop (mkF m 70 #[.val (.int p0), .val (.int p1), .val (.int p2), .val (.int p3), .val (.int (p0 &&& (2147483647 : Int32))), .val (.int (((p0 &&& (2147483647 : Int32)) >>> ((4 : Int32) &&& 31)) &&& (15 : Int32))), .val (.int ((p0 &&& (2147483647 : Int32)) &&& (15 : Int32))), .val (.int (own_pick (p3 &&& (3 : Int32)) (((p0 &&& (2147483647 : Int32)) >>> ((4 : Int32) &&& 31)) &&& (15 : Int32)) p1)), .val (.int (own_pick ((p3 >>> ((2 : Int32) &&& 31)) &&& (3 : Int32)) ((p0 &&& (2147483647 : Int32)) &&& (15 : Int32)) p2)), .unset] [])) _
      refine XS.iconst X55.here hx rfl (hb hby at_70) ?_
      show Steps p.tables e below (T55.setTop (mkF m 71 #[.val (.int p0), .val (.int p1), .val (.int p2), .val (.int p3), .val (.int (p0 &&& (2147483647 : Int32))), .val (.int (((p0 &&& (2147483647 : Int32)) >>> ((4 : Int32) &&& 31)) &&& (15 : Int32))), .val (.int ((p0 &&& (2147483647 : Int32)) &&& (15 : Int32))), .val (.int (own_pick (p3 &&& (3 : Int32)) (((p0 &&& (2147483647 : Int32)) >>> ((4 : Int32) &&& 31)) &&& (15 : Int32)) p1)), .val (.int (own_pick ((p3 >>> ((2 : Int32) &&& 31)) &&& (3 : Int32)) ((p0 &&& (2147483647 : Int32)) &&& (15 : Int32)) p2)), .unset] [(.int (0 : Int32))])) _
      refine XS.istore X55.here hx rfl (hb hby at_71) rfl (l' := #[.val (.int p0), .val (.int p1), .val (.int p2), .val (.int p3), .val (.int (p0 &&& (2147483647 : Int32))), .val (.int (((p0 &&& (2147483647 : Int32)) >>> ((4 : Int32) &&& 31)) &&& (15 : Int32))), .val (.int ((p0 &&& (2147483647 : Int32)) &&& (15 : Int32))), .val (.int (own_pick (p3 &&& (3 : Int32)) (((p0 &&& (2147483647 : Int32)) >>> ((4 : Int32) &&& 31)) &&& (15 : Int32)) p1)), .val (.int (own_pick ((p3 >>> ((2 : Int32) &&& 31)) &&& (3 : Int32)) ((p0 &&& (2147483647 : Int32)) &&& (15 : Int32)) p2)), .val (.int (0 : Int32))]) rfl ?_
      show Steps p.tables e below (T55.setTop (mkF m 73 #[.val (.int p0), .val (.int p1), .val (.int p2), .val (.int p3), .val (.int (p0 &&& (2147483647 : Int32))), .val (.int (((p0 &&& (2147483647 : Int32)) >>> ((4 : Int32) &&& 31)) &&& (15 : Int32))), .val (.int ((p0 &&& (2147483647 : Int32)) &&& (15 : Int32))), .val (.int (own_pick (p3 &&& (3 : Int32)) (((p0 &&& (2147483647 : Int32)) >>> ((4 : Int32) &&& 31)) &&& (15 : Int32)) p1)), .val (.int (own_pick ((p3 >>> ((2 : Int32) &&& 31)) &&& (3 : Int32)) ((p0 &&& (2147483647 : Int32)) &&& (15 : Int32)) p2)), .val (.int (0 : Int32))] [])) _
      refine XS.iload X55.here hx rfl (hb hby at_73) rfl ?_
      show Steps p.tables e below (T55.setTop (mkF m 75 #[.val (.int p0), .val (.int p1), .val (.int p2), .val (.int p3), .val (.int (p0 &&& (2147483647 : Int32))), .val (.int (((p0 &&& (2147483647 : Int32)) >>> ((4 : Int32) &&& 31)) &&& (15 : Int32))), .val (.int ((p0 &&& (2147483647 : Int32)) &&& (15 : Int32))), .val (.int (own_pick (p3 &&& (3 : Int32)) (((p0 &&& (2147483647 : Int32)) >>> ((4 : Int32) &&& 31)) &&& (15 : Int32)) p1)), .val (.int (own_pick ((p3 >>> ((2 : Int32) &&& 31)) &&& (3 : Int32)) ((p0 &&& (2147483647 : Int32)) &&& (15 : Int32)) p2)), .val (.int (0 : Int32))] [(.int (p0 &&& (2147483647 : Int32)))])) _
      refine XS.iload X55.here hx rfl (hb hby at_75) rfl ?_
      show Steps p.tables e below (T55.setTop (mkF m 77 #[.val (.int p0), .val (.int p1), .val (.int p2), .val (.int p3), .val (.int (p0 &&& (2147483647 : Int32))), .val (.int (((p0 &&& (2147483647 : Int32)) >>> ((4 : Int32) &&& 31)) &&& (15 : Int32))), .val (.int ((p0 &&& (2147483647 : Int32)) &&& (15 : Int32))), .val (.int (own_pick (p3 &&& (3 : Int32)) (((p0 &&& (2147483647 : Int32)) >>> ((4 : Int32) &&& 31)) &&& (15 : Int32)) p1)), .val (.int (own_pick ((p3 >>> ((2 : Int32) &&& 31)) &&& (3 : Int32)) ((p0 &&& (2147483647 : Int32)) &&& (15 : Int32)) p2)), .val (.int (0 : Int32))] [(.int (own_pick (p3 &&& (3 : Int32)) (((p0 &&& (2147483647 : Int32)) >>> ((4 : Int32) &&& 31)) &&& (15 : Int32)) p1)), (.int (p0 &&& (2147483647 : Int32)))])) _
      refine XS.iload X55.here hx rfl (hb hby at_77) rfl ?_
      exact kt
    obtain ⟨_, _, ⟨T71, L71, k71, n71⟩, -, X71, ⟨Lc71, hQ71, l71, y71, z71⟩, st71⟩ := Jvm.LawKit.callS X55 hx (y := (⟨"com/example/hemawire/hemawire/lis/LinkCodes", "isChecksum", "(III)Z"⟩ : MethodName)) hown (mvT hZ (hw _ (List.mem_of_getElem? (i := 11) rfl))) (mvT hZ (hw _ (List.mem_of_getElem? (i := 12) rfl))) (mvT hZ (hw _ (List.mem_of_getElem? (i := 13) rfl))) (mvT hZ (hw _ (List.mem_of_getElem? (i := 14) rfl))) (by decide) (backOf (W := 0) (rm_ck0 l Z a0 hw [] ((p0 &&& (2147483647 : Int32))) ((own_pick (p3 &&& (3 : Int32)) (((p0 &&& (2147483647 : Int32)) >>> ((4 : Int32) &&& 31)) &&& (15 : Int32)) p1)) ((own_pick ((p3 >>> ((2 : Int32) &&& 31)) &&& (3 : Int32)) ((p0 &&& (2147483647 : Int32)) &&& (15 : Int32)) p2)) ((((p0 &&& (2147483647 : Int32)) >>> ((4 : Int32) &&& 31)) &&& (15 : Int32))) (((p0 &&& (2147483647 : Int32)) &&& (15 : Int32))) ax kx h0 n0 O0 G0 G1 (own_bits p0).1 (own_bits p0).2 (own_mask15 _) (own_mask15 _) hc57) hZ (hw _ (List.mem_of_getElem? (i := 14) rfl)) (hw _ (List.mem_of_getElem? (i := 13) rfl)) (by decide) (by decide)) (g := (mkF m 79 #[.val (.int p0), .val (.int p1), .val (.int p2), .val (.int p3), .val (.int (p0 &&& (2147483647 : Int32))), .val (.int (((p0 &&& (2147483647 : Int32)) >>> ((4 : Int32) &&& 31)) &&& (15 : Int32))), .val (.int ((p0 &&& (2147483647 : Int32)) &&& (15 : Int32))), .val (.int (own_pick (p3 &&& (3 : Int32)) (((p0 &&& (2147483647 : Int32)) >>> ((4 : Int32) &&& 31)) &&& (15 : Int32)) p1)), .val (.int (own_pick ((p3 >>> ((2 : Int32) &&& 31)) &&& (3 : Int32)) ((p0 &&& (2147483647 : Int32)) &&& (15 : Int32)) p2)), .val (.int (0 : Int32))] [(.int (own_pick ((p3 >>> ((2 : Int32) &&& 31)) &&& (3 : Int32)) ((p0 &&& (2147483647 : Int32)) &&& (15 : Int32)) p2)), (.int (own_pick (p3 &&& (3 : Int32)) (((p0 &&& (2147483647 : Int32)) >>> ((4 : Int32) &&& 31)) &&& (15 : Int32)) p1)), (.int (p0 &&& (2147483647 : Int32)))])) rfl (by rw [hml]; rfl) (argsL := [(.int (p0 &&& (2147483647 : Int32))), (.int (own_pick (p3 &&& (3 : Int32)) (((p0 &&& (2147483647 : Int32)) >>> ((4 : Int32) &&& 31)) &&& (15 : Int32)) p1)), (.int (own_pick ((p3 >>> ((2 : Int32) &&& 31)) &&& (3 : Int32)) ((p0 &&& (2147483647 : Int32)) &&& (15 : Int32)) p2))]) (rest := []) (lenOf pd_9 rfl) rfl (by show 2 * 0 + _ ≤ _; exact Nat.le_of_eq rfl) (hb hby at_79) (fun _ _ => ⟨rfl, e55, (by decide : 0 + 0 ≤ _), (by decide : 0 + 0 ≤ _)⟩)
    dsimp only [Pt.U, Pt.locs, Pt.cells, Pt.slots] at X71 l71 y71 z71 st71 hQ71
    subst l71 y71 z71
    obtain ⟨rfl, M71, e71⟩ := hQ71
    have N71 := Fr.app N55 M71
    have pre72 : ∀ t, Steps p.tables e below (T71.setTop (mkF m 82 #[.val (.int p0), .val (.int p1), .val (.int p2), .val (.int p3), .val (.int (p0 &&& (2147483647 : Int32))), .val (.int (((p0 &&& (2147483647 : Int32)) >>> ((4 : Int32) &&& 31)) &&& (15 : Int32))), .val (.int ((p0 &&& (2147483647 : Int32)) &&& (15 : Int32))), .val (.int (own_pick (p3 &&& (3 : Int32)) (((p0 &&& (2147483647 : Int32)) >>> ((4 : Int32) &&& 31)) &&& (15 : Int32)) p1)), .val (.int (own_pick ((p3 >>> ((2 : Int32) &&& 31)) &&& (3 : Int32)) ((p0 &&& (2147483647 : Int32)) &&& (15 : Int32)) p2)), .val (.int (0 : Int32))] [(.int (0 : Int32))])) t → Steps p.tables e below (s₁.setTop (entryFrame m #[(.int p0), (.int p1), (.int p2), (.int p3)] maxLocals)) t := fun t kt => pre70 _ (st71 _ kt)
    have pre73 : ∀ t, Steps p.tables e below (T71.setTop (mkF m 92 #[.val (.int p0), .val (.int p1), .val (.int p2), .val (.int p3), .val (.int (p0 &&& (2147483647 : Int32))), .val (.int (((p0 &&& (2147483647 : Int32)) >>> ((4 : Int32) &&& 31)) &&& (15 : Int32))), .val (.int ((p0 &&& (2147483647 : Int32)) &&& (15 : Int32))), .val (.int (own_pick (p3 &&& (3 : Int32)) (((p0 &&& (2147483647 : Int32)) >>> ((4 : Int32) &&& 31)) &&& (15 : Int32)) p1)), .val (.int (own_pick ((p3 >>> ((2 : Int32) &&& 31)) &&& (3 : Int32)) ((p0 &&& (2147483647 : Int32)) &&& (15 : Int32)) p2)), .val (.int (0 : Int32))] [(.int (1 : Int32))])) t → Steps p.tables e below (s₁.setTop (entryFrame m #[(.int p0), (.int p1), (.int p2), (.int p3)] maxLocals)) t := fun t kt => by
      refine pre72 _ ?_
      show Steps p.tables e below (T71.setTop (mkF m 82 #[.val (.int p0), .val (.int p1), .val (.int p2), .val (.int p3), .val (.int (p0 &&& (2147483647 : Int32))), .val (.int (((p0 &&& (2147483647 : Int32)) >>> ((4 : Int32) &&& 31)) &&& (15 : Int32))), .val (.int ((p0 &&& (2147483647 : Int32)) &&& (15 : Int32))), .val (.int (own_pick (p3 &&& (3 : Int32)) (((p0 &&& (2147483647 : Int32)) >>> ((4 : Int32) &&& 31)) &&& (15 : Int32)) p1)), .val (.int (own_pick ((p3 >>> ((2 : Int32) &&& 31)) &&& (3 : Int32)) ((p0 &&& (2147483647 : Int32)) &&& (15 : Int32)) p2)), .val (.int (0 : Int32))] [(.int (0 : Int32))])) _
      refine XS.iload X71.here hx rfl (hb hby at_82) rfl ?_
      show Steps p.tables e below (T71.setTop (mkF m 84 #[.val (.int p0), .val (.int p1), .val (.int p2), .val (.int p3), .val (.int (p0 &&& (2147483647 : Int32))), .val (.int (((p0 &&& (2147483647 : Int32)) >>> ((4 : Int32) &&& 31)) &&& (15 : Int32))), .val (.int ((p0 &&& (2147483647 : Int32)) &&& (15 : Int32))), .val (.int (own_pick (p3 &&& (3 : Int32)) (((p0 &&& (2147483647 : Int32)) >>> ((4 : Int32) &&& 31)) &&& (15 : Int32)) p1)), .val (.int (own_pick ((p3 >>> ((2 : Int32) &&& 31)) &&& (3 : Int32)) ((p0 &&& (2147483647 : Int32)) &&& (15 : Int32)) p2)), .val (.int (0 : Int32))] [(.int (0 : Int32)), (.int (0 : Int32))])) _
      refine XS.icmpNo X71.here hx rfl (hb hby at_84) rfl (XT.ii_ne_f (by decide)) ?_
      show Steps p.tables e below (T71.setTop (mkF m 87 #[.val (.int p0), .val (.int p1), .val (.int p2), .val (.int p3), .val (.int (p0 &&& (2147483647 : Int32))), .val (.int (((p0 &&& (2147483647 : Int32)) >>> ((4 : Int32) &&& 31)) &&& (15 : Int32))), .val (.int ((p0 &&& (2147483647 : Int32)) &&& (15 : Int32))), .val (.int (own_pick (p3 &&& (3 : Int32)) (((p0 &&& (2147483647 : Int32)) >>> ((4 : Int32) &&& 31)) &&& (15 : Int32)) p1)), .val (.int (own_pick ((p3 >>> ((2 : Int32) &&& 31)) &&& (3 : Int32)) ((p0 &&& (2147483647 : Int32)) &&& (15 : Int32)) p2)), .val (.int (0 : Int32))] [])) _
      refine XS.iconst X71.here hx rfl (hb hby at_87) ?_
      show Steps p.tables e below (T71.setTop (mkF m 88 #[.val (.int p0), .val (.int p1), .val (.int p2), .val (.int p3), .val (.int (p0 &&& (2147483647 : Int32))), .val (.int (((p0 &&& (2147483647 : Int32)) >>> ((4 : Int32) &&& 31)) &&& (15 : Int32))), .val (.int ((p0 &&& (2147483647 : Int32)) &&& (15 : Int32))), .val (.int (own_pick (p3 &&& (3 : Int32)) (((p0 &&& (2147483647 : Int32)) >>> ((4 : Int32) &&& 31)) &&& (15 : Int32)) p1)), .val (.int (own_pick ((p3 >>> ((2 : Int32) &&& 31)) &&& (3 : Int32)) ((p0 &&& (2147483647 : Int32)) &&& (15 : Int32)) p2)), .val (.int (0 : Int32))] [(.int (1 : Int32))])) _
      refine XS.goto X71.here hx rfl (pc0 := 88) (pc' := 92) rfl (hb hby at_88) (by decide) (by decide) ?_
      exact kt
    obtain ⟨fs, hr, hrun, hended, hW, hsame⟩ := X71.leave (v := some (.int (1 : Int32))) (fun h => by rw [Bd.returns] at h; cases h)
    refine ⟨_, _, pre73 _ (retN X71 hx (t := .boolean) Bd.returns (by simp) (hb hby at_92) hr), hrun, hended, _, _, rfl, ?_, ⟨_, rfl⟩, hW, hsame.mono (by decide) (by decide)⟩
    show Q_law Z p0 p1 p2 p3 ax kx h0 n0 _ T71.heap _
    rw [e71]
    exact ⟨rfl, N71⟩
set_option maxRecDepth 65536 in
set_option maxHeartbeats 40000000 in
theorem comes_1 {Post : Tables → Env → Array Value → State → Outcome → State → Prop} (hpost : ∀ tb e args s v u, (limb_1_1.after args s (.returned v) u = true ∧ limb_1_2.after args s (.returned v) u = true ∧ True) → FrameEnd s (.returned v) u (Jvm.fieldLocs frame_1_writes args s ++ Jvm.arrayLocs frame_1_arrays args s ++ Jvm.staticLocs frame_1_statics s) 0 0 → Post tb e args s (.returned v) u) :
    ArmFor flags0 classFile x code maxLocals ret World_1 tables_1 room_1 Calls_1 rest_1 Pre_1 Post := by
  intro l hfl _ _ p e ha hc hk s m args below hf hA hF happ hP
  obtain ⟨hcalls, hrest, hpre⟩ := hP
  obtain ⟨-, -, -, hnamed, -, -, -, hat⟩ := (Spec.applies_iff hf).mp happ
  obtain ⟨hg, hn⟩ := and_e (Cond.before_iff.mp (show (Jvm.Cond.and given_1 narrow_1).before args s = true from hpre))
  obtain ⟨given_1_2, given_1_3⟩ := and_e hg
  obtain ⟨given_1_4, given_1_5⟩ := and_e given_1_3
  obtain ⟨given_1_6, given_1_7⟩ := and_e given_1_5
  obtain ⟨given_1_8, given_1_9⟩ := and_e given_1_7
  obtain ⟨narrow_1_2, narrow_1_3⟩ := and_e hn
  obtain ⟨narrow_1_4, narrow_1_5⟩ := and_e narrow_1_3
  obtain ⟨narrow_1_6, narrow_1_7⟩ := and_e narrow_1_5
  obtain ⟨w0, w1, w2, w3, rfl⟩ : ∃ w0 w1 w2 w3 : Value, args = #[w0, w1, w2, w3] := by
    have hs : args.size = 4 := by simpa [Cond.value, given_1] using given_1_2
    obtain ⟨L⟩ := args
    match L, hs with
    | [w0, w1, w2, w3], _ => exact ⟨w0, w1, w2, w3, rfl⟩
  have hw := fun d (hd : d ∈ tables_1) => atoms_spec (ws := Jvm.Cond.code x code maxLocals ret :: tables_1) hat d (List.mem_cons_of_mem _ hd)
  have hfit : Fit s := fun {y c} hc i hi => by
    obtain ⟨ha, rfl⟩ := Array.getElem?_eq_some_iff.mp hc
    have q := List.all_eq_true.mp ((Array.all_eq_true_iff_forall_mem.mp hF) _ (Array.getElem_mem ha)) i (List.mem_range.mpr hi)
    simpa [Array.getElem?_eq_getElem hi] using q
  obtain ⟨i0, ei0⟩ := is_v given_1_4
  obtain rfl : w0 = (.int i0) := Option.some.inj ei0
  obtain ⟨i1, ei1⟩ := is_v given_1_6
  obtain rfl : w1 = (.int i1) := Option.some.inj ei1
  obtain ⟨i2, ei2⟩ := is_v given_1_8
  obtain rfl : w2 = (.int i2) := Option.some.inj ei2
  obtain ⟨i3, ei3⟩ := is_v given_1_9
  obtain rfl : w3 = (.int i3) := Option.some.inj ei3
  obtain ⟨ax, ev⟩ := arr_v narrow_1_2
  have S_HEX : Sta s s.heap "com/example/hemawire/hemawire/lis/LinkCodes" "HEX_DIGITS" "[C" (.ref ax) := Sta.start ev (Or.inr ⟨(hw _ (List.mem_of_getElem? (i := 13) rfl)), (hw _ (List.mem_of_getElem? (i := 16) rfl))⟩)
  obtain ⟨kx, A_HEX⟩ := own_hexstart hfit ev narrow_1_2 narrow_1_4 narrow_1_6 narrow_1_7
  obtain ⟨n, o, h1, h2, h3, _, L, rfl, ⟨rfl, N⟩, hq⟩ := rm_law l s _ hw tables_1 i0 i1 i2 i3 ax kx s.heap s.heap.size (Old.start s) S_HEX A_HEX p e ha hc hk s m _ below hf ((Spec.applies_iff_loose hf).mp happ).1 ⟨rfl, State.Warmed39.refl s, rfl⟩ trivial
  refine ⟨n, _, h1, h2, h3, hpost _ _ _ _ _ _ ⟨Cond.after_iff.mpr rfl, Cond.after_iff.mpr (eq_i res_at (Term.int_eval (1)) rfl), trivial⟩ ⟨hq.1, hq.2.1, (hq.2.2.sift fun y hy => Or.inr (N y hy)).mono (by decide) (by decide)⟩⟩
theorem main_1_1 : Claimed_1_1 := comes_1 fun _ _ _ _ _ _ h hF => ⟨h.1, hF⟩
theorem main_1_2 : Claimed_1_2 := comes_1 fun _ _ _ _ _ _ h hF => ⟨h.2.1, hF⟩
end Jvm.Pilot.@@N@@
namespace Jvm.Pilot.@@N@@
open Jvm Jvm.ClassFile Sem Op Lib Jvm.Free Jvm.Stand Jvm.Pilot.@@N@@.Jvm.D
/-! MADE BY PROGRAM (witnessworld.py) out of the Statement's table words and the real class files: 11 classes; the members and pool entries that the words name. The judged class is class 1, her method 4. -/
namespace start1
open Jvm.ClassFile
def u (s : String) : CpInfo := .utf8 (stringToUtf16 s)
/-- a pool by its gaps: so many unusable entries, then the entry; so many at the end -/
def gap : Nat → List CpInfo → List CpInfo
  | 0, r => r
  | n + 1, r => .unusable :: gap n r
def poolList (es : List (Nat × CpInfo)) (last : Nat) : List CpInfo := es.foldr (fun e r => gap e.1 (e.2 :: r)) (gap last [])
def pool (es : List (Nat × CpInfo)) (last : Nat) : Array CpInfo := ⟨poolList es last⟩
def fileOf (pool : Array CpInfo) (this : Nat) (attrs : Array Attribute := #[]) (ms : Array MethodInfo := #[]) (fl : Nat := 33) (sup : Nat := 0) (ifs : Array Nat := #[]) (fds : Array FieldInfo := #[]) : ClassFile where
  minorVersion := 0
  majorVersion := 65
  constantPool := pool
  accessFlags := fl
  thisClass := this
  superClass := sup
  interfaces := ifs
  fields := fds
  methods := ms
  attributes := attrs
def plain (name : String) (sup : Option ClassId) : Class where
  name := name
  kind := .ordinary
  loader := none
  accessFlags := 33
  super := sup
  interfaces := #[]
  cf := none
  fields := #[]
  methods := #[]
  instanceTypes := #[]
  staticTypes := #[]
  resolved := #[]
  callSites := []
  init := .initialized
  statics := none
  mirror := none

def pool0 : Array CpInfo := pool [(5, u "<init>"), (0, u "()V"), (1, .class_ 10), (1, u "java/lang/Object")] 113

def k0m0 : Method := { name := "<init>", desc := "()V", sig := { parameters := [], returnType := none }, accessFlags := 1, code := none }
/-- java/lang/Object -/
def k0 : Class := { plain "java/lang/Object" none with
  accessFlags := 33
  interfaces := #[]
  cf := some (fileOf pool0 8 #[] #[{ accessFlags := 1, nameIndex := 5, descriptorIndex := 6, attributes := #[] }] 33 0 #[] #[])
  fields := #[]
  methods := #[k0m0]
  instanceTypes := #[]
  staticTypes := #[]
  resolved := Array.replicate 124 none
  statics := none }

def pool1 : Array CpInfo := pool [(2, .class_ 4), (1, u "java/lang/Object"), (0, u "<init>"), (0, u "()V"), (0, .methodref 8 9), (0, .class_ 10), (0, .nameAndType 11 12), (0, u "com/example/hemawire/hemawire/lis/LinkCodesIsChecksumPinLaw"), (0, u "hexUp"), (0, u "(I)I"), (0, .methodref 8 14), (0, .nameAndType 15 12), (0, u "hexLow"), (0, .integer 2147483647), (0, .methodref 8 18), (0, .nameAndType 19 20), (0, u "pick"), (0, u "(III)I"), (0, .methodref 22 23), (0, .class_ 24), (0, .nameAndType 25 26), (0, u "com/example/hemawire/hemawire/lis/LinkCodes"), (0, u "isChecksum"), (0, u "(III)Z"), (3, u "law"), (0, u "(IIII)Z")] 2

def k1m0 : Method := { name := "<init>", desc := "()V", sig := { parameters := [], returnType := none }, accessFlags := 2, code := none }
def k1c1 : Code := { maxStack := 3, maxLocals := 1, code := method_2_code, exceptionTable := #[], attributes := #[] }
def k1m1 : Method := { name := "hexUp", desc := "(I)I", sig := { parameters := [.int], returnType := some .int }, accessFlags := 10, code := some k1c1 }
def k1c2 : Code := { maxStack := 3, maxLocals := 1, code := method_3_code, exceptionTable := #[], attributes := #[] }
def k1m2 : Method := { name := "hexLow", desc := "(I)I", sig := { parameters := [.int], returnType := some .int }, accessFlags := 10, code := some k1c2 }
def k1c3 : Code := { maxStack := 2, maxLocals := 3, code := method_4_code, exceptionTable := #[], attributes := #[] }
def k1m3 : Method := { name := "pick", desc := "(III)I", sig := { parameters := [.int, .int, .int], returnType := some .int }, accessFlags := 10, code := some k1c3 }
def k1c4 : Code := { maxStack := 3, maxLocals := 10, code := code, exceptionTable := #[], attributes := #[] }
def k1m4 : Method := { name := "law", desc := "(IIII)Z", sig := { parameters := [.int, .int, .int, .int], returnType := some .boolean }, accessFlags := 9, code := some k1c4 }
/-- com/example/hemawire/hemawire/lis/LinkCodesIsChecksumPinLaw -/
def k1 : Class := { plain "com/example/hemawire/hemawire/lis/LinkCodesIsChecksumPinLaw" (some 0) with
  accessFlags := 49
  interfaces := #[]
  cf := some (fileOf pool1 8 #[] #[{ accessFlags := 2, nameIndex := 5, descriptorIndex := 6, attributes := #[] }, { accessFlags := 10, nameIndex := 11, descriptorIndex := 12, attributes := #[] }, { accessFlags := 10, nameIndex := 15, descriptorIndex := 12, attributes := #[] }, { accessFlags := 10, nameIndex := 19, descriptorIndex := 20, attributes := #[] }, { accessFlags := 9, nameIndex := 30, descriptorIndex := 31, attributes := #[] }] 49 2 #[] #[])
  fields := #[]
  methods := #[k1m0, k1m1, k1m2, k1m3, k1m4]
  instanceTypes := #[]
  staticTypes := #[]
  resolved := Array.replicate 34 none
  statics := none }

def pool2 : Array CpInfo := pool [(2, .class_ 4), (1, u "java/lang/Object"), (0, u "<init>"), (0, u "()V"), (2, .fieldref 10 11), (0, .class_ 12), (0, .nameAndType 13 14), (0, u "com/example/hemawire/hemawire/lis/LinkCodes"), (0, u "HEX_DIGITS"), (0, u "[C"), (9, u "STX"), (0, u "I"), (2, u "ETX"), (1, u "EOT"), (1, u "ENQ"), (1, u "ACK"), (1, u "LF"), (1, u "CR"), (1, u "NAK"), (1, u "ETB"), (5, u "isChecksum"), (0, u "(III)Z")] 4

def k2m0 : Method := { name := "<init>", desc := "()V", sig := { parameters := [], returnType := none }, accessFlags := 2, code := none }
def k2c1 : Code := { maxStack := 4, maxLocals := 4, code := prog_32_method_3_code, exceptionTable := #[], attributes := #[] }
def k2m1 : Method := { name := "isChecksum", desc := "(III)Z", sig := { parameters := [.int, .int, .int], returnType := some .boolean }, accessFlags := 8, code := some k2c1 }
/-- com/example/hemawire/hemawire/lis/LinkCodes -/
def k2 : Class := { plain "com/example/hemawire/hemawire/lis/LinkCodes" (some 0) with
  accessFlags := 49
  interfaces := #[]
  cf := some (fileOf pool2 10 #[] #[{ accessFlags := 2, nameIndex := 5, descriptorIndex := 6, attributes := #[] }, { accessFlags := 8, nameIndex := 48, descriptorIndex := 49, attributes := #[] }] 49 2 #[] #[{ accessFlags := 24, nameIndex := 24, descriptorIndex := 25, attributes := #[] }, { accessFlags := 24, nameIndex := 28, descriptorIndex := 25, attributes := #[] }, { accessFlags := 25, nameIndex := 30, descriptorIndex := 25, attributes := #[] }, { accessFlags := 25, nameIndex := 32, descriptorIndex := 25, attributes := #[] }, { accessFlags := 24, nameIndex := 34, descriptorIndex := 25, attributes := #[] }, { accessFlags := 24, nameIndex := 36, descriptorIndex := 25, attributes := #[] }, { accessFlags := 24, nameIndex := 38, descriptorIndex := 25, attributes := #[] }, { accessFlags := 24, nameIndex := 40, descriptorIndex := 25, attributes := #[] }, { accessFlags := 24, nameIndex := 42, descriptorIndex := 25, attributes := #[] }, { accessFlags := 26, nameIndex := 13, descriptorIndex := 14, attributes := #[] }])
  fields := #[{ name := "STX", type := .int, accessFlags := 24, slot := 0, constantValue := 0 }, { name := "ETX", type := .int, accessFlags := 24, slot := 1, constantValue := 0 }, { name := "EOT", type := .int, accessFlags := 25, slot := 2, constantValue := 0 }, { name := "ENQ", type := .int, accessFlags := 25, slot := 3, constantValue := 0 }, { name := "ACK", type := .int, accessFlags := 24, slot := 4, constantValue := 0 }, { name := "LF", type := .int, accessFlags := 24, slot := 5, constantValue := 0 }, { name := "CR", type := .int, accessFlags := 24, slot := 6, constantValue := 0 }, { name := "NAK", type := .int, accessFlags := 24, slot := 7, constantValue := 0 }, { name := "ETB", type := .int, accessFlags := 24, slot := 8, constantValue := 0 }, { name := "HEX_DIGITS", type := (.array .char), accessFlags := 26, slot := 9, constantValue := 0 }]
  methods := #[k2m0, k2m1]
  instanceTypes := #[]
  staticTypes := #[.int, .int, .int, .int, .int, .int, .int, .int, .int, (.array .char)]
  resolved := Array.replicate 54 none
  statics := some 0 }

def pool3 : Array CpInfo := pool [(1, u "java/lang/Cloneable"), (0, .class_ 1), (0, u "java/lang/Object"), (0, .class_ 3)] 3

/-- java/lang/Cloneable -/
def k3 : Class := { plain "java/lang/Cloneable" (some 0) with
  accessFlags := 1537
  interfaces := #[]
  cf := some (fileOf pool3 2 #[] #[] 1537 4 #[] #[])
  fields := #[]
  methods := #[]
  instanceTypes := #[]
  staticTypes := #[]
  resolved := Array.replicate 8 none
  statics := none }

def pool4 : Array CpInfo := pool [(1, u "java/io/Serializable"), (0, .class_ 1), (0, u "java/lang/Object"), (0, .class_ 3)] 3

/-- java/io/Serializable -/
def k4 : Class := { plain "java/io/Serializable" (some 0) with
  accessFlags := 1537
  interfaces := #[]
  cf := some (fileOf pool4 2 #[] #[] 1537 4 #[] #[])
  fields := #[]
  methods := #[]
  instanceTypes := #[]
  staticTypes := #[]
  resolved := Array.replicate 8 none
  statics := none }

/-- the primitive byte -/
def k5 : Class := { plain "byte" none with kind := .primitive 'B', accessFlags := 0x411 }
/-- [B -/
def k6 : Class := { plain "[B" (some 0) with kind := .array 5 .byte, interfaces := #[3, 4], accessFlags := 1041 }

/-- the primitive char -/
def k7 : Class := { plain "char" none with kind := .primitive 'C', accessFlags := 0x411 }
/-- [C -/
def k8 : Class := { plain "[C" (some 0) with kind := .array 7 .char, interfaces := #[3, 4], accessFlags := 1041 }

/-- the primitive int -/
def k9 : Class := { plain "int" none with kind := .primitive 'I', accessFlags := 0x411 }
/-- [I -/
def k10 : Class := { plain "[I" (some 0) with kind := .array 9 .int, interfaces := #[3, 4], accessFlags := 1041 }

def heap : Heap := #[{ cls := 2, slots := #[.int 0, .int 0, .int 0, .int 0, .int 0, .int 0, .int 0, .int 0, .int 0, .ref 1], vm := .statics 2 },
  { cls := 8, slots := #[.int 48, .int 49, .int 50, .int 51, .int 52, .int 53, .int 54, .int 55, .int 56, .int 57, .int 65, .int 66, .int 67, .int 68, .int 69, .int 70], vm := .none }]
def classes : Array Class := #[k0, k1, k2, k3, k4, k5, k6, k7, k8, k9, k10]
def interned : List (Array UInt16 × Addr) := []
def slotsUsed : Nat := 26
def theMethod : MethodId := ⟨1, 4⟩
def args0 : Array Value := #[.int 5, .int 1, .int 2, .int 3]
def aboutOver (below : List Frame) : State where
  vm := { classes := classes, interned := interned.toArray }
  heap := heap
  slotsUsed := slotsUsed
  threads := #[{ frames := .invoking theMethod args0 :: below }]
def below0 : List Frame := [.native { method := ⟨0, 0⟩, args := #[] }]
def about1 : State := aboutOver below0
def p0 : Program := .bare "" "" ""
def e0 : Env := launch0.env 0 0 0
theorem w_frames : about1.frames = Frame.invoking theMethod args0 :: below0 := rfl
set_option maxRecDepth 65536 in
theorem w_args : argsFit about1.vm theMethod args0 = true := by decide +kernel
set_option maxRecDepth 65536 in
theorem w_heap : heapFits about1 = true := by decide +kernel
set_option maxRecDepth 65536 in
theorem w_runnable : about1.curStatus? = some .runnable := by decide +kernel
set_option maxRecDepth 65536 in
theorem w_alone : about1.alone = true := by decide +kernel
set_option maxRecDepth 65536 in
theorem w_named : about1.methodNamed? x = some theMethod := by decide +kernel
set_option maxRecDepth 65536 in
theorem w_hears : about1.hears theMethod below0 = true := by decide +kernel
set_option maxRecDepth 65536 in
theorem w_ripe : about1.ripe theMethod args0 below0 = true := by decide +kernel
theorem w_running : about1.status = .running := rfl
set_option maxRecDepth 65536 in
theorem w_room : about1.hasRoom e0.platform room_1 = true :=
  launch0.hasRoom_least _ room_1 (by decide +kernel) (by decide +kernel) (by decide +kernel) (by decide +kernel) (by decide +kernel) (by decide +kernel)
theorem allAtoms_all (ts : List Jvm.Cond) (a : Array Jvm.Value) (st : Jvm.State) : (allAtoms ts).before a st = ts.all (fun c => c.before a st) := by
  induction ts with
  | nil => rfl
  | cons c t ih =>
    show (Jvm.Cond.and c (allAtoms t)).before a st = _
    rw [Jvm.Cond.before_and, ih, List.all_cons]
def words1 : List Jvm.Cond := Jvm.Cond.code x code maxLocals ret :: tables_1
/-- a 'code' word, met by the world's own term for the bytes: nothing is compared byte by byte -/
theorem code_word {y : MethodName} {bytes : ByteArray} {mx : Nat} {rt : Option FieldType} {a : Array Value} {s : State} {m : MethodId} {meth : Method} {c : Code} (h1 : s.methodNamed? y = some m) (h2 : s.vm.method? m = some meth) (h3 : meth.code = some c) (h4 : c.code = bytes)
    (h5 : (c.maxLocals == mx && c.exceptionTable.isEmpty && decide (c.maxStack ≤ mostOperands) && decide (meth.sig.returnType = rt) && !meth.locks && decide (parseMethodDescriptor y.desc = some meth.sig)) = true) : (Jvm.Cond.code y bytes mx rt).before a s = true := by
  simp only [Bool.and_eq_true, beq_iff_eq, Bool.not_eq_true', decide_eq_true_eq] at h5
  obtain ⟨⟨⟨⟨⟨g1, g2⟩, g3⟩, g4⟩, g5⟩, g6⟩ := h5
  simp [Cond.before, Cond.holds, Cond.value, h1, h2, h3, h4, g1, g2, g3, g4, g5, g6]
def isCode : Jvm.Cond → Bool
  | .code _ _ _ _ => true
  | _ => false
theorem all_split {L : List Jvm.Cond} {P : Jvm.Cond → Bool} (h1 : L.all (fun c => isCode c || P c) = true) (h2 : ∀ c ∈ L.filter isCode, P c = true) : L.all P = true := by
  refine List.all_eq_true.mpr fun c hc => ?_
  have h := List.all_eq_true.mp h1 c hc
  rcases Bool.eq_false_or_eq_true (isCode c) with hi | hi
  · exact h2 c (List.mem_filter.mpr ⟨hc, hi⟩)
  · simpa [hi] using h
set_option maxRecDepth 65536 in
theorem w_c0 : (Jvm.Cond.code x code maxLocals ret).before args0 about1 = true := code_word (m := ⟨1, 4⟩) (meth := k1m4) (c := k1c4) (by decide +kernel) rfl rfl rfl (by decide +kernel)
set_option maxRecDepth 65536 in
theorem w_c1 : (Jvm.Cond.code ({ cls := "com/example/hemawire/hemawire/lis/LinkCodesIsChecksumPinLaw", name := "pick", desc := "(III)I" } : Jvm.MethodName) method_4_code (3 : Nat) (Option.some Jvm.ClassFile.FieldType.int)).before args0 about1 = true := code_word (m := ⟨1, 3⟩) (meth := k1m3) (c := k1c3) (by decide +kernel) rfl rfl rfl (by decide +kernel)
set_option maxRecDepth 65536 in
theorem w_c2 : (Jvm.Cond.code ({ cls := "com/example/hemawire/hemawire/lis/LinkCodesIsChecksumPinLaw", name := "hexLow", desc := "(I)I" } : Jvm.MethodName) method_3_code (1 : Nat) (Option.some Jvm.ClassFile.FieldType.int)).before args0 about1 = true := code_word (m := ⟨1, 2⟩) (meth := k1m2) (c := k1c2) (by decide +kernel) rfl rfl rfl (by decide +kernel)
set_option maxRecDepth 65536 in
theorem w_c3 : (Jvm.Cond.code ({ cls := "com/example/hemawire/hemawire/lis/LinkCodesIsChecksumPinLaw", name := "hexUp", desc := "(I)I" } : Jvm.MethodName) method_2_code (1 : Nat) (Option.some Jvm.ClassFile.FieldType.int)).before args0 about1 = true := code_word (m := ⟨1, 1⟩) (meth := k1m1) (c := k1c1) (by decide +kernel) rfl rfl rfl (by decide +kernel)
set_option maxRecDepth 65536 in
theorem w_c4 : (Jvm.Cond.code ({ cls := "com/example/hemawire/hemawire/lis/LinkCodes", name := "isChecksum", desc := "(III)Z" } : Jvm.MethodName) prog_32_method_3_code (4 : Nat) (Option.some Jvm.ClassFile.FieldType.boolean)).before args0 about1 = true := code_word (m := ⟨2, 1⟩) (meth := k2m1) (c := k2c1) (by decide +kernel) rfl rfl rfl (by decide +kernel)
def codes1 : List Jvm.Cond := [Jvm.Cond.code x code maxLocals ret, Jvm.Cond.code ({ cls := "com/example/hemawire/hemawire/lis/LinkCodesIsChecksumPinLaw", name := "pick", desc := "(III)I" } : Jvm.MethodName) method_4_code (3 : Nat) (Option.some Jvm.ClassFile.FieldType.int), Jvm.Cond.code ({ cls := "com/example/hemawire/hemawire/lis/LinkCodesIsChecksumPinLaw", name := "hexLow", desc := "(I)I" } : Jvm.MethodName) method_3_code (1 : Nat) (Option.some Jvm.ClassFile.FieldType.int), Jvm.Cond.code ({ cls := "com/example/hemawire/hemawire/lis/LinkCodesIsChecksumPinLaw", name := "hexUp", desc := "(I)I" } : Jvm.MethodName) method_2_code (1 : Nat) (Option.some Jvm.ClassFile.FieldType.int), Jvm.Cond.code ({ cls := "com/example/hemawire/hemawire/lis/LinkCodes", name := "isChecksum", desc := "(III)Z" } : Jvm.MethodName) prog_32_method_3_code (4 : Nat) (Option.some Jvm.ClassFile.FieldType.boolean)]
set_option maxRecDepth 65536 in
theorem codes_eq : words1.filter isCode = codes1 := rfl
theorem w_codes : ∀ c ∈ words1.filter isCode, c.before args0 about1 = true := by
  rw [codes_eq]
  intro c hc
  simp only [codes1, List.mem_cons, List.not_mem_nil, or_false] at hc
  rcases hc with rfl | rfl | rfl | rfl | rfl
  · exact w_c0
  · exact w_c1
  · exact w_c2
  · exact w_c3
  · exact w_c4
set_option maxRecDepth 65536 in
theorem w_t1 : words1.all (fun c => isCode c || c.before args0 about1) = true := by decide +kernel
theorem w_tables : (allAtoms (Jvm.Cond.code x code maxLocals ret :: tables_1)).before args0 about1 = true := by
  rw [allAtoms_all]
  show words1.all (fun c => c.before args0 about1) = true
  refine all_split ?_ w_codes
  rw [w_t1]
set_option maxRecDepth 65536 in
theorem w_case : (Jvm.Cond.and given_1 narrow_1).before args0 about1 = true := by decide +kernel
theorem w_applies : (headSpec (Jvm.Cond.code x code maxLocals ret :: tables_1) room_1).applies x e0.platform about1 = true :=
  (Spec.applies_iff w_frames).mpr ⟨w_running, w_runnable, w_alone, w_named, w_hears, w_ripe, w_room, w_tables⟩
theorem atStart : AtStart classFile x code maxLocals ret World_1 tables_1 room_1 Calls_1 rest_1 Pre_1 launch0 p0 e0 about1 theMethod args0 below0 :=
  ⟨lists_1, trivial, launch0.admits_env _ _ _, launch0.least_env, fairChoices_fair.cas, fairChoices_fair.clock, w_frames, w_args, w_heap, w_applies, trivial, trivial, w_case⟩
end start1
theorem witness_1 : WitnessClaimed_1 := ⟨start1.p0, start1.e0, start1.about1, start1.theMethod, start1.args0, start1.below0, start1.atStart⟩
end Jvm.Pilot.@@N@@
