import JvmDerived
import JvmDerived.Pilot.@@N@@Statement
import JvmDerived.Pilot.@@N@@Code
set_option linter.unusedVariables false
set_option linter.unusedSimpArgs false
@@BLOCK:NumsL.lean.txt@@
namespace Jvm.RoadKit
open Sem ClassFile Op Lib Jvm.Stand Jvm.Free Jvm.LawKit
section New
variable {p : Program} {l : Launch} {e : Env} {R : Room} {s : State} {m : MethodId} {args : Array Value} {below : List Frame} {meth : Method} {c : Code} {T : State} {locs : List Loc} {cells slots : Nat}
theorem retI (X : Stand p l e R s m args below meth c T locs cells slots) (hx : p.tables.exec = Jvm.exec) {pc : Nat} {Ls : Array Slot} {z : Int32} {rest : List Value} (hret : meth.sig.returnType = some .int) (hd : decode c.code pc = .ok (.ireturn, 1)) {fs : List Frame}
    (hl : ∀ (f : JFrame) (acts : List Action), f.method = m → f.locked = none → f.entered = [] → (doReturn e (T.setTop f) acts (some (.int z))).1 = T.setFrames fs) : Steps p.tables e below (T.setTop (mkF m pc Ls (.int z :: rest))) (T.setFrames fs) := by
  have hm' : T.vm.method? m = some meth := X.method'
  have hn : narrow .int (.int z) = .int z := rfl
  show Steps p.tables e below (T.setTop { method := m, pc := pc, locals := Ls, stack := _ :: rest, locked := none }) _
  jvm_step X.here [X.here.top, hx, hd, hm', hret, hn]
  first | (intro acts; rw [hl _ acts rfl rfl rfl]) | rw [hl _ _ rfl rfl rfl]
  exact Steps.refl _
end New
end Jvm.RoadKit
namespace Jvm.Pilot.@@N@@
open Jvm Jvm.ClassFile Sem Op Lib Jvm.Free Jvm.Stand Jvm.LawKit Jvm.RoadKit Bundle Jvm.Pilot.@@N@@.Jvm.D
theorem own_fld_ne {Z : State} {h : Heap} {a b : Addr} {C n d : String} {v w : Value} (F : Fld Z h a C n d v) (G : Fld Z h b C n d w) (q : v ≠ w) : a ≠ b := fun e => by
  subst e
  obtain ⟨c1, cf1, k1, i1, f1, a1, a2, -, -, -, -, a7⟩ := F
  obtain ⟨c2, cf2, k2, i2, f2, b1, b2, -, -, -, -, b7⟩ := G
  cases a1.symm.trans b1
  cases a2.symm.trans b2
  exact q (Option.some.inj (a7.symm.trans b7))
theorem own_fldI {args : Array Value} {s : State} {t : Term} {a : Addr} {C n d : String} {k : Int32} (ht : t.eval args s none [] s = some (.ref a)) (h : (Jvm.Cond.eq (Term.field t C n d) (Term.int k)).value args s none s [] = some true) : Fld s s.heap a C n d (.int k) := by
  apply Fld.start
  have e1 : (Term.field t C n d).eval args s none [] s = s.fieldOf? a C n d := fld_at ht
  have e2 : (Term.int k).eval args s none [] s = some (.int k) := Term.int_eval k
  simp only [Cond.value, e1, e2] at h
  split at h <;> simp_all
theorem own_nm0 {a : Addr} : a ∉ ([] : List Addr) := List.not_mem_nil
theorem own_nm1 {a x : Addr} (h : a ≠ x) : a ∉ [x] := fun q => h (List.mem_singleton.mp q)
theorem own_nm2 {a x y : Addr} (h : a ≠ x) (h2 : a ≠ y) : a ∉ [x, y] := fun q => by
  rcases List.mem_cons.mp q with q | q
  · exact h q
  · exact h2 (List.mem_singleton.mp q)
theorem own_nm3 {a x y z : Addr} (h : a ≠ x) (h2 : a ≠ y) (h3 : a ≠ z) : a ∉ [x, y, z] := fun q => by
  rcases List.mem_cons.mp q with q | q
  · exact h q
  · exact own_nm2 h2 h3 q
theorem own_all0 {P : Addr → Prop} : ∀ x ∈ ([] : List Addr), P x := fun x q => (List.not_mem_nil q).elim
theorem own_all1 {P : Addr → Prop} {a : Addr} (h : P a) : ∀ x ∈ [a], P x := fun x q => by rw [List.mem_singleton.mp q]; exact h
theorem own_all2 {P : Addr → Prop} {a b : Addr} (h : P a) (h2 : P b) : ∀ x ∈ [a, b], P x := fun x q => by
  rcases List.mem_cons.mp q with q | q
  · rw [q]; exact h
  · rw [List.mem_singleton.mp q]; exact h2
theorem own_all3 {P : Addr → Prop} {a b c : Addr} (h : P a) (h2 : P b) (h3 : P c) : ∀ x ∈ [a, b, c], P x := fun x q => by
  rcases List.mem_cons.mp q with q | q
  · rw [q]; exact h
  · exact own_all2 h2 h3 x q
section OwnD
open Jvm.FP
variable {p : Program} {l : Launch} {e : Env} {R : Room} {s : State} {m : MethodId} {args : Array Value} {below : List Frame} {meth : Method} {c : Code} {T : State} {locs : List Loc} {cells slots : Nat}
theorem own_retD (X : Stand p l e R s m args below meth c T locs cells slots) (hx : p.tables.exec = Jvm.exec) {pc : Nat} {Ls : Array Slot} {z : UInt64} {rest : List Value} (hret : meth.sig.returnType = some .double) (hd : decode c.code pc = .ok (.dreturn, 1)) {fs : List Frame}
    (hl : ∀ (f : JFrame) (acts : List Action), f.method = m → f.locked = none → f.entered = [] → (doReturn e (T.setTop f) acts (some (.double z))).1 = T.setFrames fs) : Steps p.tables e below (T.setTop (mkF m pc Ls (.double z :: rest))) (T.setFrames fs) := by
  have hm' : T.vm.method? m = some meth := X.method'
  show Steps p.tables e below (T.setTop { method := m, pc := pc, locals := Ls, stack := _ :: rest, locked := none }) _
  jvm_step X.here [X.here.top, hx, hd, hm', hret]
  first | (intro acts; rw [hl _ acts rfl rfl rfl]) | rw [hl _ _ rfl rfl rfl]
  exact Steps.refl _
end OwnD
section OwnAvg
open Jvm.FP.Core
theorem own_rr_le {s : Bool} {A B : Nat} {V : Datum} (hB : 0 < B) (hV : Jvm.FP.Core.fits b64 V) (hn : V ≠ .nan) (h : signed s A * (one64 : Int) ≤ zval b64 V * (B : Int)) : zval b64 (roundRatio b64 s A B 0) ≤ zval b64 V := by
  have hq : b64.qmin ≤ 0 := by decide
  have e1 : inUnits A 0 b64.qmin = A * one64 := by
    show A * 2 ^ (0 - b64.qmin).toNat = _
    rw [Int.zero_sub, pow_qmin64]
  have e2 : 2 ^ (b64.qmin - b64.qmin).toNat = 1 := by rw [Int.sub_self]; rfl
  have hle := zmag_roundRatio_le good_b64 (s := s) (A := A) (B := B) (e := 0) hB hV hn (Int.le_refl _) hq
  have hge := zmag_roundRatio_ge good_b64 (s := s) (A := A) (B := B) (e := 0) hB hV (Int.le_refl _) hq
  rw [e1, e2, Nat.mul_one] at hle hge
  unfold zval at h ⊢
  rw [sgn_roundRatio]
  rw [← signed_mul, ← signed_mul] at h
  have hz : zmag b64 V * B = 0 → zmag b64 V = 0 := by
    intro h
    rcases Nat.mul_eq_zero.mp h with h | h <;> omega
  generalize zmag b64 (roundRatio b64 s A B 0) = zr at *
  generalize A * one64 = AA at *
  generalize zmag b64 V * B = vP at *
  generalize zmag b64 V = vz at *
  generalize sgn V = t at *
  cases s <;> cases t <;> simp only [signed, if_true, Bool.false_eq_true, if_false] at h ⊢
  · have := hle (by omega); omega
  · have := hle (by omega); have := hz (by omega); omega
  · omega
  · have := hge (by omega); omega
theorem own_sn (s : Bool) (A : Nat) : signed (!s) A = -signed s A := by cases s <;> simp [signed]
theorem own_rr_ge {s : Bool} {A B : Nat} {V : Datum} (hB : 0 < B) (hV : Jvm.FP.Core.fits b64 V) (hn : V ≠ .nan) (h : zval b64 V * (B : Int) ≤ signed s A * (one64 : Int)) : zval b64 V ≤ zval b64 (roundRatio b64 s A B 0) := by
  have h1 := own_rr_le (s := !s) (A := A) (V := negate V) hB (negate_fits hV) (negate_ne_nan hn) (by
    rw [zval_negate, Int.neg_mul, own_sn, Int.neg_mul]; omega)
  rw [zval_negate, ← negate_roundRatio, zval_negate] at h1
  omega
theorem own_quo {i j : Int} {s t : Bool} {c d : Nat} {q r : Int} (ha : Whole i (.fin s c q)) (hb : Whole j (.fin t d r)) (hj : j ≠ 0) :
    ∃ u, quotient b64 (.fin s c q) (.fin t d r) = roundRatio b64 u i.natAbs j.natAbs 0 ∧ signed u i.natAbs = if 0 < j then i else -i := by
  have hd : d ≠ 0 := fun h => hj ((whole_zero hb).mp h)
  refine ⟨s != t, ?_, ?_⟩
  · simp only [quotient, if_neg hd]
    refine roundRatio_congr (by omega) (by omega) ?_
    have h1 := whole_natAbs ha
    have h2 := whole_natAbs hb
    have hp := Nat.two_pow_pos ((-q).toNat + r.toNat)
    refine Nat.eq_of_mul_eq_mul_right hp ?_
    calc c * j.natAbs * 2 ^ (q - r - 0).toNat * 2 ^ ((-q).toNat + r.toNat) = c * j.natAbs * (2 ^ (q - r - 0).toNat * 2 ^ ((-q).toNat + r.toNat)) := Nat.mul_assoc _ _ _
      _ = c * j.natAbs * (2 ^ (q.toNat + (-r).toNat) * 2 ^ (0 - (q - r)).toNat) := by
          rw [← Nat.pow_add, ← Nat.pow_add]; congr 2; omega
      _ = (c * 2 ^ q.toNat) * (j.natAbs * 2 ^ (-r).toNat) * 2 ^ (0 - (q - r)).toNat := by rw [Nat.pow_add]; ac_rfl
      _ = (i.natAbs * 2 ^ (-q).toNat) * (d * 2 ^ r.toNat) * 2 ^ (0 - (q - r)).toNat := by rw [h1, h2]
      _ = i.natAbs * d * 2 ^ (0 - (q - r)).toNat * 2 ^ ((-q).toNat + r.toNat) := by rw [Nat.pow_add]; ac_rfl
  · by_cases hi : i = 0
    · subst hi; rw [show (0 : Int).natAbs = 0 from rfl, signed_zero]; simp
    · rw [whole_sign ha hi, whole_sign hb hj]
      by_cases h1 : i < 0 <;> by_cases h2 : j < 0 <;> simp only [h1, h2, decide_true, decide_false, signed] <;> simp <;> (first | split | skip) <;> omega
theorem own_ddiv {i j : Int} {a b : UInt64} (ha : DInt i a) (hb : DInt j b) (hj : j ≠ 0) :
    ∃ u, val64 (ddiv a b) = roundRatio b64 u i.natAbs j.natAbs 0 ∧ signed u i.natAbs = if 0 < j then i else -i := by
  rw [val64_ddiv]
  unfold DInt at ha hb
  cases h1 : val64 a with
  | nan => rw [h1] at ha; exact ha.elim
  | inf => rw [h1] at ha; exact ha.elim
  | fin s c q =>
    cases h2 : val64 b with
    | nan => rw [h2] at hb; exact hb.elim
    | inf => rw [h2] at hb; exact hb.elim
    | fin t d r => rw [h1] at ha; rw [h2] at hb; exact own_quo ha hb hj
theorem own_rep {N : Int} (h : N.natAbs < 2 ^ 53) : ∃ V : Datum, Jvm.FP.Core.fits b64 V ∧ V ≠ .nan ∧ zval b64 V * ((2 ^ 20 : Nat) : Int) = N * (one64 : Int) := by
  obtain ⟨c', q', h1, h2⟩ := round_exact good_b64 (decide (N < 0)) (c := N.natAbs) (q := -20) h (by decide) (by decide)
  refine ⟨_, round_fits good_b64 (.fin (decide (N < 0)) N.natAbs (-20)), by rw [h1]; exact Datum.noConfusion, ?_⟩
  rw [h1]
  show signed (decide (N < 0)) (inUnits c' q' b64.qmin) * _ = _
  rw [h2, ← signed_mul]
  have e : inUnits N.natAbs (-20) b64.qmin * 2 ^ 20 = N.natAbs * one64 := by
    show N.natAbs * 2 ^ (-20 - b64.qmin).toNat * 2 ^ 20 = _
    rw [Nat.mul_assoc, ← Nat.pow_add, ← pow_qmin64, show (-20 - b64.qmin).toNat + 20 = (-b64.qmin).toNat by decide]
  have g : signed (decide (N < 0)) N.natAbs = N := by
    unfold signed
    by_cases h : N < 0 <;> simp [h] <;> omega
  rw [e, signed_mul, g]
theorem own_zi {i : Int} {a : UInt64} (h : DInt i a) : zval b64 (val64 a) = i * (one64 : Int) := by
  rw [whole_zval good_b64 (val64_fits a) h, pow_qmin64]
theorem own_nn {i : Int} {a : UInt64} (h : DInt i a) : val64 a ≠ .nan := Whole.ne_nan h
theorem own_dnn {i j : Int} {a b : UInt64} (ha : DInt i a) (hb : DInt j b) (hj : j ≠ 0) : val64 (ddiv a b) ≠ .nan := by
  obtain ⟨u, h1, _⟩ := own_ddiv ha hb hj
  rw [h1]; exact roundRatio_ne_nan _ _ _ _ _
theorem own_o64 : (0 : Int) < (one64 : Int) := by have := one64_pos; omega
theorem own_lo (z o v n : Int) (ho : 0 < o) (hv : v * 1048576 = (n * 1048576 + 1) * o) (hz : v ≤ z) : n * o < z := by
  have e : (n * 1048576 + 1) * o = n * o * 1048576 + o := by rw [Int.add_mul, Int.one_mul, Int.mul_right_comm]
  generalize n * o = no at *
  omega
theorem own_hi (z o v n : Int) (ho : 0 < o) (hv : v * 1048576 = (n * 1048576 - 1) * o) (hz : z ≤ v) : z < n * o := by
  have e : (n * 1048576 - 1) * o = n * o * 1048576 - o := by rw [Int.sub_mul, Int.one_mul, Int.mul_right_comm]
  generalize n * o = no at *
  omega
theorem own_frac {n : Int} {c r : Nat} {u : Bool} {A : Nat} (hc : c ≤ 1048576) (hr : 0 < r) (hrc : r < c) (hn : n.natAbs ≤ 2 ^ 32) (hA : signed u A = n * (c : Int) + (r : Int)) :
    n * (one64 : Int) < zval b64 (roundRatio b64 u A c 0) ∧ zval b64 (roundRatio b64 u A c 0) < (n + 1) * (one64 : Int) := by
  have ho := own_o64
  obtain ⟨V, v1, v2, v3⟩ := own_rep (N := n * 1048576 + 1) (by omega)
  obtain ⟨W, w1, w2, w3⟩ := own_rep (N := (n + 1) * 1048576 - 1) (by omega)
  have key : ∀ x y : Int, 0 ≤ x → x * 1048576 ≤ y * 1048576 → x ≤ y := fun x y _ h => by omega
  refine ⟨own_lo _ _ _ n ho v3 (own_rr_ge (by omega) v1 v2 ?_), own_hi _ _ _ _ ho w3 (own_rr_le (by omega) w1 w2 ?_)⟩
  · rw [hA]
    have e : zval b64 V * (c : Int) * 1048576 = (n * 1048576 + 1) * (c : Int) * (one64 : Int) := by
      rw [Int.mul_right_comm, show zval b64 V * 1048576 = _ from v3, Int.mul_right_comm]
    have f : (n * 1048576 + 1) * (c : Int) ≤ (n * (c : Int) + (r : Int)) * 1048576 := by
      rw [Int.add_mul, Int.one_mul, Int.mul_right_comm]
      generalize n * (c : Int) = nc
      omega
    have g := Int.mul_le_mul_of_nonneg_right f (Int.le_of_lt ho)
    rw [← e, Int.mul_right_comm (n * (c : Int) + (r : Int))] at g
    generalize zval b64 V * (c : Int) = x at *
    generalize (n * (c : Int) + (r : Int)) * (one64 : Int) = y at *
    omega
  · rw [hA]
    have e : zval b64 W * (c : Int) * 1048576 = ((n + 1) * 1048576 - 1) * (c : Int) * (one64 : Int) := by
      rw [Int.mul_right_comm, show zval b64 W * 1048576 = _ from w3, Int.mul_right_comm]
    have f : (n * (c : Int) + (r : Int)) * 1048576 ≤ ((n + 1) * 1048576 - 1) * (c : Int) := by
      rw [Int.sub_mul, Int.one_mul, Int.mul_right_comm, Int.add_mul, Int.add_mul, Int.add_mul, Int.one_mul]
      generalize n * (c : Int) = nc
      omega
    have g := Int.mul_le_mul_of_nonneg_right f (Int.le_of_lt ho)
    rw [← e, Int.mul_right_comm (n * (c : Int) + (r : Int))] at g
    generalize zval b64 W * (c : Int) = x at *
    generalize (n * (c : Int) + (r : Int)) * (one64 : Int) = y at *
    omega
theorem own_frac' {n : Int} {c r : Nat} {u : Bool} {A : Nat} (hc : c ≤ 1048576) (hr : 0 < r) (hrc : r < c) (hn : n.natAbs ≤ 2 ^ 32) (hA : signed u A = n * (c : Int) - (r : Int)) :
    (n - 1) * (one64 : Int) < zval b64 (roundRatio b64 u A c 0) ∧ zval b64 (roundRatio b64 u A c 0) < n * (one64 : Int) := by
  have h := own_frac (n := -n) (u := !u) (A := A) hc hr hrc (by omega) (by rw [own_sn, hA, Int.neg_mul]; omega)
  rw [← negate_roundRatio, zval_negate] at h
  rw [Int.sub_mul, Int.one_mul]
  rw [Int.add_mul, Int.one_mul, Int.neg_mul] at h
  omega
theorem own_one : DInt 1 (4607182418800017408 : UInt64) := by
  have h := l2d_int (a := (1 : Int64)) (by decide)
  rw [show l2d (1 : Int64) = (4607182418800017408 : UInt64) by decide +kernel] at h
  exact h
theorem own_avg2 {q : Int32} {a b : UInt64} {c r : Nat} (ha : DInt (q.toInt * (c : Int) + (r : Int)) a) (hb : DInt (c : Int) b) (hc : c ≤ 1048576) (hr : 0 < r) (hrc : r < c) :
    dcmp (i2d q) (ddiv a b) = some .lt ∧ dcmp (ddiv a b) (dadd (i2d q) 4607182418800017408) = some .lt := by
  have l1 := q.toInt_lt; have l2 := q.le_toInt
  have hj : (c : Int) ≠ 0 := by omega
  have hq := i2d_int q
  have hs := dadd_int hq own_one (by omega)
  obtain ⟨u, h1, h2⟩ := own_ddiv ha hb hj
  rw [if_pos (by omega)] at h2
  have hf := own_frac (n := q.toInt) (c := c) (r := r) hc hr hrc (by omega) h2
  have hn := own_dnn ha hb hj
  rw [Int.natAbs_natCast] at h1
  exact ⟨dcmp_lt.mpr ⟨own_nn hq, hn, by rw [own_zi hq, h1]; exact hf.1⟩, dcmp_lt.mpr ⟨hn, own_nn hs, by rw [own_zi hs, h1]; exact hf.2⟩⟩
theorem own_avg3 {q : Int32} {a b : UInt64} {c r : Nat} (ha : DInt (q.toInt * (-(c : Int)) + (r : Int)) a) (hb : DInt (-(c : Int)) b) (hc : c ≤ 1048576) (hr : 0 < r) (hrc : r < c) :
    dcmp (dsub (i2d q) 4607182418800017408) (ddiv a b) = some .lt ∧ dcmp (ddiv a b) (i2d q) = some .lt := by
  have l1 := q.toInt_lt; have l2 := q.le_toInt
  have hj : -(c : Int) ≠ 0 := by omega
  have hq := i2d_int q
  have hs := dsub_int hq own_one (by omega)
  obtain ⟨u, h1, h2⟩ := own_ddiv ha hb hj
  rw [if_neg (by omega)] at h2
  have hf := own_frac' (n := q.toInt) (c := c) (r := r) hc hr hrc (by omega) (by rw [h2, Int.mul_neg]; omega)
  have hn := own_dnn ha hb hj
  rw [Int.natAbs_neg, Int.natAbs_natCast] at h1
  exact ⟨dcmp_lt.mpr ⟨own_nn hs, hn, by rw [own_zi hs, h1]; exact hf.1⟩, dcmp_lt.mpr ⟨hn, own_nn hq, by rw [own_zi hq, h1]; exact hf.2⟩⟩
theorem own_avg0 {q : Int32} {a b : UInt64} {j : Int} (ha : DInt (q.toInt * j) a) (hb : DInt j b) (hj : j ≠ 0) : dcmp (ddiv a b) (i2d q) = some .eq := by
  have hq := i2d_int q
  obtain ⟨u, h1, h2⟩ := own_ddiv ha hb hj
  have e : signed u (q.toInt * j).natAbs = q.toInt * (j.natAbs : Int) := by
    rw [h2]
    by_cases h : 0 < j
    · rw [if_pos h, show (j.natAbs : Int) = j by omega]
    · rw [if_neg h, show (j.natAbs : Int) = -j by omega, Int.mul_neg]
  have k : signed u (q.toInt * j).natAbs * (one64 : Int) = zval b64 (val64 (i2d q)) * (j.natAbs : Int) := by rw [e, own_zi hq, Int.mul_right_comm]
  have hle := own_rr_le (by omega) (val64_fits (i2d q)) (own_nn hq) (Int.le_of_eq k)
  have hge := own_rr_ge (by omega) (val64_fits (i2d q)) (own_nn hq) (Int.le_of_eq k.symm)
  exact dcmp_eq.mpr ⟨own_dnn ha hb hj, own_nn hq, by rw [h1]; omega⟩
end OwnAvg
section OwnAvg2
open Jvm.FP.Core
theorem own_ci (x : Int32) : 1 ≤ ((x &&& (1048575 : Int32)) + (1 : Int32)).toInt ∧ ((x &&& (1048575 : Int32)) + (1 : Int32)).toInt ≤ 1048576 := by
  have e : (x &&& (1048575 : Int32)).toInt = x.toInt % 2 ^ 20 := Jvm.Kit.i32_mask x _ (k := 20) (by decide) (by decide)
  generalize (x &&& (1048575 : Int32)) = y at *
  have o : (1 : Int32).toInt = 1 := by decide
  rw [Jvm.Kit.i32_add (by rw [o]; omega) (by rw [o]; omega), o]
  omega
theorem own_rm (x c : Int32) (h : 1 ≤ c.toInt) : 0 ≤ ((x &&& (2147483647 : Int32)) - ((x &&& (2147483647 : Int32)) / c) * c).toInt ∧ ((x &&& (2147483647 : Int32)) - ((x &&& (2147483647 : Int32)) / c) * c).toInt < c.toInt := by
  have e : (x &&& (2147483647 : Int32)).toInt = x.toInt % 2 ^ 31 := Jvm.Kit.i32_mask x _ (k := 31) (by decide) (by decide)
  generalize (x &&& (2147483647 : Int32)) = y at *
  have y0 : 0 ≤ y.toInt := by omega
  have y1 : y.toInt < 2 ^ 31 := by omega
  have d : (y / c).toInt = y.toInt / c.toInt := by rw [Jvm.Kit.i32_div (by omega), Int.tdiv_eq_ediv_of_nonneg y0]
  have k1 := Int.emod_nonneg y.toInt (show c.toInt ≠ 0 by omega)
  have k2 := Int.emod_lt_of_pos y.toInt (show 0 < c.toInt by omega)
  have k3 := Int.mul_ediv_add_emod y.toInt c.toInt
  have k4 := Int.mul_nonneg (show 0 ≤ c.toInt by omega) (Int.ediv_nonneg y0 (show 0 ≤ c.toInt by omega))
  have m : ((y / c) * c).toInt = c.toInt * (y.toInt / c.toInt) := by rw [Jvm.Kit.i32_mul (by rw [d, Int.mul_comm]; omega) (by rw [d, Int.mul_comm]; omega), d, Int.mul_comm]
  rw [Jvm.Kit.i32_sub (by rw [m]; omega) (by rw [m]; omega), m]
  omega
theorem own_ci0 {c : Int32} (h : 1 ≤ c.toInt) : c ≠ (0 : Int32) := by
  intro e; subst e; exact absurd h (by decide)
theorem own_cl {c : Int32} (h : 1 ≤ c.toInt) : c.toInt64 ≠ (0 : Int64) := by
  intro e
  have := congrArg Int64.toInt e
  rw [Jvm.Kit.i64_of_i32] at this
  have z : (0 : Int64).toInt = 0 := by decide
  omega
theorem own_ng {c : Int32} : (-(c.toInt64)).toInt = -c.toInt := by
  have a := c.toInt_lt; have b := c.le_toInt
  rw [Jvm.Kit.i64_neg (by rw [Jvm.Kit.i64_of_i32]; omega), Jvm.Kit.i64_of_i32]
theorem own_cn {c : Int32} (h : 1 ≤ c.toInt) : (-(c.toInt64)) ≠ (0 : Int64) := by
  intro e
  have := congrArg Int64.toInt e
  rw [own_ng] at this
  have z : (0 : Int64).toInt = 0 := by decide
  omega
theorem own_rt {q rr : Int32} {j : Int64} (hj : j.toInt.natAbs ≤ 1048576) (hr : 0 ≤ rr.toInt ∧ rr.toInt < 1048576) : ((q.toInt64 * j) + rr.toInt64).toInt = q.toInt * j.toInt + rr.toInt ∧ (q.toInt * j.toInt + rr.toInt).natAbs ≤ 2 ^ 53 := by
  have a := q.toInt_lt; have b := q.le_toInt
  have k : (q.toInt * j.toInt).natAbs ≤ 2147483648 * 1048576 := by rw [Int.natAbs_mul]; exact Nat.mul_le_mul (by omega) hj
  have e : (q.toInt64 * j).toInt = q.toInt * j.toInt := by rw [Jvm.Kit.i64_mul (by rw [Jvm.Kit.i64_of_i32]; omega) (by rw [Jvm.Kit.i64_of_i32]; omega), Jvm.Kit.i64_of_i32]
  refine ⟨?_, by omega⟩
  rw [Jvm.Kit.i64_add (by rw [e, Jvm.Kit.i64_of_i32]; omega) (by rw [e, Jvm.Kit.i64_of_i32]; omega), e, Jvm.Kit.i64_of_i32]
theorem own_dint {a : Int64} {i : Int} (h : a.toInt = i) (b : i.natAbs ≤ 2 ^ 53) : DInt i (FP.l2d a) := by
  subst h; exact l2d_int b
theorem own_lc {x : Int64} (h : x ≠ (0 : Int64)) : lcmpW x (0 : Int64) ≠ (0 : Int32) := fun e => h ((lw_eq _ _).mp e)
theorem own_lc0 {r : Int32} (h : lcmpW r.toInt64 (0 : Int64) = (0 : Int32)) : r.toInt = 0 := by
  have e := congrArg Int64.toInt ((lw_eq _ _).mp h)
  rw [Jvm.Kit.i64_of_i32] at e
  exact e
theorem own_lc1 {r : Int32} (h : ¬ lcmpW r.toInt64 (0 : Int64) = (0 : Int32)) (h0 : 0 ≤ r.toInt) : 0 < r.toInt := by
  have e : r.toInt ≠ 0 := by
    intro e
    refine h ((lw_eq _ _).mpr (Int64.toInt_inj.mp ?_))
    rw [Jvm.Kit.i64_of_i32, e]; rfl
  omega
theorem own_nan {x : UInt64} (h : val64 x ≠ .nan) : Jvm.Free.Fl.NoNaN64 x := Jvm.Free.Fl.noNaN64_no.mpr ((notNaN_iff x).mpr h)
theorem own_dv {a c : Int64} (h : c ≠ (0 : Int64)) : Jvm.Free.Fl.NoNaN64 (FP.ddiv (FP.l2d a) (FP.l2d c)) := by
  refine Jvm.Free.Fl.noNaN64_no.mpr (ddiv_out (l2d_notNaN a) (l2d_fin c) ?_)
  intro z
  have g := fromInt_ge (toNat_l2d c) (fun e => h (Int64.toInt_inj.mp (by rw [e]; rfl)))
  have k : (l2d c).toNat % 2 ^ 63 = 0 := (zero_bits2 _).mp z
  omega
theorem own_ad (q : Int32) : Jvm.Free.Fl.NoNaN64 (FP.dadd (FP.i2d q) (4607182418800017408 : UInt64)) := by
  have l1 := q.toInt_lt; have l2 := q.le_toInt
  exact own_nan (own_nn (dadd_int (i2d_int q) own_one (by omega)))
theorem own_sb (q : Int32) : Jvm.Free.Fl.NoNaN64 (FP.dsub (FP.i2d q) (4607182418800017408 : UInt64)) := by
  have l1 := q.toInt_lt; have l2 := q.le_toInt
  exact own_nan (own_nn (dsub_int (i2d_int q) own_one (by omega)))
theorem own_d1 (a : Int64) (o : ClassFile.CmpOp) : cmpValue (FP.dcmp (FP.ddiv (FP.l2d a) (FP.l2d (1 : Int64))) (FP.l2d a)) o = 0 := by
  have h := (l2d_fin a).ne_nan
  have e : FP.ddiv (FP.l2d a) (FP.l2d (1 : Int64)) = FP.l2d a := by
    rw [show FP.l2d (1 : Int64) = dconst1 by decide +kernel]
    exact ddiv_one h
  rw [e, show FP.dcmp (FP.l2d a) (FP.l2d a) = some .eq from dcmp_self h]
  cases o <;> rfl
theorem own_ve {x y : UInt64} (h : dcmp x y = some .eq) (o : ClassFile.CmpOp) : cmpValue (FP.dcmp x y) o = 0 := by
  rw [show FP.dcmp x y = some .eq from h]; cases o <;> rfl
theorem own_vl {x y : UInt64} (h : dcmp x y = some .lt) (o : ClassFile.CmpOp) : cmpValue (FP.dcmp x y) o = (-1 : Int32) := by
  rw [show FP.dcmp x y = some .lt from h]; cases o <;> rfl
theorem own_e {q r : Int32} {j : Int64} (hj : j.toInt.natAbs ≤ 1048576) (j0 : j ≠ (0 : Int64)) (hr : lcmpW r.toInt64 (0 : Int64) = (0 : Int32)) : dcmp (FP.ddiv (FP.l2d ((q.toInt64 * j) + r.toInt64)) (FP.l2d j)) (FP.i2d q) = some .eq := by
  have r0 := own_lc0 hr
  have t := own_rt (q := q) (rr := r) hj (by omega)
  rw [r0, Int.add_zero] at t
  exact own_avg0 (own_dint t.1 t.2) (own_dint rfl (by omega)) (fun e => j0 (Int64.toInt_inj.mp (by rw [e]; rfl)))
theorem own_2 {q c r : Int32} (hc : 1 ≤ c.toInt ∧ c.toInt ≤ 1048576) (hr : 0 ≤ r.toInt ∧ r.toInt < c.toInt) (h : ¬ lcmpW r.toInt64 (0 : Int64) = (0 : Int32)) :
    dcmp (FP.i2d q) (FP.ddiv (FP.l2d ((q.toInt64 * c.toInt64) + r.toInt64)) (FP.l2d c.toInt64)) = some .lt ∧ dcmp (FP.ddiv (FP.l2d ((q.toInt64 * c.toInt64) + r.toInt64)) (FP.l2d c.toInt64)) (FP.dadd (FP.i2d q) 4607182418800017408) = some .lt := by
  have r1 := own_lc1 h hr.1
  have cj := Jvm.Kit.i64_of_i32 c
  have t := own_rt (q := q) (rr := r) (j := c.toInt64) (by rw [cj]; omega) (by omega)
  rw [cj] at t
  have ec : c.toInt = ((c.toInt.toNat : Nat) : Int) := by omega
  have er : r.toInt = ((r.toInt.toNat : Nat) : Int) := by omega
  have A := own_dint t.1 t.2
  have B := own_dint (a := c.toInt64) cj (by omega)
  rw [ec, er] at A
  rw [ec] at B
  exact own_avg2 A B (by omega) (by omega) (by omega)
theorem own_3 {q c r : Int32} (hc : 1 ≤ c.toInt ∧ c.toInt ≤ 1048576) (hr : 0 ≤ r.toInt ∧ r.toInt < c.toInt) (h : ¬ lcmpW r.toInt64 (0 : Int64) = (0 : Int32)) :
    dcmp (FP.dsub (FP.i2d q) 4607182418800017408) (FP.ddiv (FP.l2d ((q.toInt64 * (-(c.toInt64))) + r.toInt64)) (FP.l2d (-(c.toInt64)))) = some .lt ∧ dcmp (FP.ddiv (FP.l2d ((q.toInt64 * (-(c.toInt64))) + r.toInt64)) (FP.l2d (-(c.toInt64)))) (FP.i2d q) = some .lt := by
  have r1 := own_lc1 h hr.1
  have cj := own_ng (c := c)
  have t := own_rt (q := q) (rr := r) (j := -(c.toInt64)) (by rw [cj]; omega) (by omega)
  rw [cj] at t
  have ec : c.toInt = ((c.toInt.toNat : Nat) : Int) := by omega
  have er : r.toInt = ((r.toInt.toNat : Nat) : Int) := by omega
  have A := own_dint t.1 t.2
  have B := own_dint (a := -(c.toInt64)) cj (by omega)
  rw [ec, er] at A
  rw [ec] at B
  exact own_avg3 A B (by omega) (by omega) (by omega)
theorem own_b2 {c : Int32} (hc : 1 ≤ c.toInt ∧ c.toInt ≤ 1048576) : c.toInt64.toInt.natAbs ≤ 1048576 := by rw [Jvm.Kit.i64_of_i32]; omega
theorem own_b3 {c : Int32} (hc : 1 ≤ c.toInt ∧ c.toInt ≤ 1048576) : (-(c.toInt64)).toInt.natAbs ≤ 1048576 := by rw [own_ng]; omega
end OwnAvg2
theorem own_mask3 (x : Int32) : (x &&& (3 : Int32)) = (0 : Int32) ∨ (x &&& (3 : Int32)) = (1 : Int32) ∨ (x &&& (3 : Int32)) = (2 : Int32) ∨ (x &&& (3 : Int32)) = (3 : Int32) := by
  have e : (x &&& 3).toInt = x.toInt % 2 ^ 2 := Jvm.Kit.i32_mask x 3 (k := 2) (by decide) (by decide)
  have h : (x &&& 3).toInt = 0 ∨ (x &&& 3).toInt = 1 ∨ (x &&& 3).toInt = 2 ∨ (x &&& 3).toInt = 3 := by omega
  rcases h with h | h | h | h
  · exact Or.inl (Int32.toInt_inj.mp h)
  · exact Or.inr (Or.inl (Int32.toInt_inj.mp h))
  · exact Or.inr (Or.inr (Or.inl (Int32.toInt_inj.mp h)))
  · exact Or.inr (Or.inr (Or.inr (Int32.toInt_inj.mp h)))
theorem pn_0 : plainName "com/example/osier/osier/SecondFigures" = true := by first | (simp [plainName, overriddenIn]; done) | decide +kernel
theorem ef_1 (m : MethodId) (x0 : Addr) : entryFrame m #[(.ref x0)] 1 = mkF m 0 #[.val (.ref x0)] [] := by first | (simp [entryFrame, mkF, argsToLocals, Value.category]; done) | rfl
theorem d3_0 : decode prog_70_method_8_code 0 = .ok (.aload_n 0, 1) := by decide +kernel
theorem d3_1 : decode prog_70_method_8_code 1 = .ok (.getfield 19, 3) := by decide +kernel
theorem d3_4 : decode prog_70_method_8_code 4 = .ok (.lconst 0, 1) := by decide +kernel
theorem d3_5 : decode prog_70_method_8_code 5 = .ok (.lcmp, 1) := by decide +kernel
theorem d3_6 : decode prog_70_method_8_code 6 = .ok (.ifCond .ne 7, 3) := by decide +kernel
theorem d3_9 : decode prog_70_method_8_code 9 = .ok (.dconst 0, 1) := by decide +kernel
theorem d3_10 : decode prog_70_method_8_code 10 = .ok (.goto 14, 3) := by decide +kernel
theorem d3_24 : decode prog_70_method_8_code 24 = .ok (.dreturn, 1) := by decide +kernel
def Q_avg0 (Z : State) (sf : Addr) (h0 : Heap) (n0 : Nat) (v : Option Value) (h : Heap) (L : List Loc) : Prop := v = some (.double (0 : UInt64)) ∧ Fr n0 L ∧ h = h0
set_option maxRecDepth 65536 in
set_option maxHeartbeats 40000000 in
theorem rm_avg0 (l : Launch) (Z : State) (a0 : Array Value) (hw : ∀ d ∈ tables_1, d.before a0 Z = true) (ws : List Jvm.Cond) (sf : Addr) (h0 : Heap) (n0 : Nat) (O0 : Old Z n0 h0) (Fi0 : Exa Z h0 sf "com/example/osier/osier/SecondFigures") (Fi1 : Fld Z h0 sf "com/example/osier/osier/SecondFigures" "completed" "J" (.long (0 : Int64))) :
    MetFree l (⟨"com/example/osier/osier/SecondFigures", "averageResponseTimeMillis", "()D"⟩ : MethodName) (head1 (Jvm.Cond.code (⟨"com/example/osier/osier/SecondFigures", "averageResponseTimeMillis", "()D"⟩ : MethodName) prog_70_method_8_code 1 (some .double) :: ws) ({ frames := 0, cells := 0, slots := 0, locals := 0 } : Room)) (fun a U => a = #[(.ref sf)] ∧ Z.Warmed39 U.vm ∧ U.heap = h0) (fun _ _ _ _ _ => True) (fun _ U o U' => ∃ v L, o = .returned v ∧ Q_avg0 Z sf h0 n0 v U'.heap L ∧ FrameEnd U o U' L ({ frames := 0, cells := 0, slots := 0, locals := 0 } : Room).cells ({ frames := 0, cells := 0, slots := 0, locals := 0 } : Room).slots) := by
  refine MetFree.of_bodySF (plainFor_of_name pn_0) hisR ?_
  intro p e s m args below meth c s₁ Bd hml0 hP hK
  have W := fun {d : Jvm.Cond} (i : Nat) (q : tables_1[i]? = some d) => hw d (List.mem_of_getElem? q)
  obtain ⟨rfl, hZ, hh⟩ := hP
  have hx := Bd.exec
  have hby := Bd.bytes
  have hml : c.maxLocals = 1 := hml0
  have hown : s.vm.findClass "com/example/osier/osier/SecondFigures" = some m.cls := findClass_of_methodNamed Bd.named
  have hnm := (name_of_methodNamed Bd.named Bd.method).1
  have X0 : Stand p l e ({ frames := 0, cells := 0, slots := 0, locals := 0 } : Room) s m #[(.ref sf)] below meth c s₁ [] 0 0 := Stand.of_body Bd
  have e0 : s₁.heap = h0 := by rw [← hh, Bd.state]; rfl
  have N0 := Fr.nil n0
  have pre0 : ∀ t, Steps p.tables e below (s₁.setTop (mkF m 0 #[rv sf] [])) t → Steps p.tables e below (s₁.setTop (entryFrame m #[(.ref sf)] 1)) t := fun t k => castTop (ef_1 m sf) k
  have K0 : Keep h0 h0 [] := Keep.refl h0 []
  have pre1 : ∀ t, Steps p.tables e below (s₁.setTop (mkF m 1 #[rv sf] [(.ref sf)])) t → Steps p.tables e below (s₁.setTop (entryFrame m #[(.ref sf)] 1)) t := fun t kt => by
    refine pre0 _ ?_
    show Steps p.tables e below (s₁.setTop (mkF m 0 #[rv sf] [])) _
    refine XS.aloadN X0.here hx rfl (hb hby d3_0) rfl rfl ?_
    exact kt
  obtain ⟨T2, X2, e2, st2⟩ := getF X0 hx hZ hown (host := "") (Or.inl (W 17 rfl)) Via.refl e0 Fi1 (g := (mkF m 1 #[rv sf] [(.ref sf)])) rfl rfl (hb hby d3_1)
  have pre3 : ∀ t, Steps p.tables e below (T2.setTop (mkF m 4 #[rv sf] [(.long (0 : Int64))])) t → Steps p.tables e below (s₁.setTop (entryFrame m #[(.ref sf)] 1)) t := fun t kt => pre1 _ (st2 _ kt)
  have pre4 : ∀ t, Steps p.tables e below (T2.setTop (mkF m 24 #[rv sf] [(.double (0 : UInt64))])) t → Steps p.tables e below (s₁.setTop (entryFrame m #[(.ref sf)] 1)) t := fun t kt => by
    refine pre3 _ ?_
    show Steps p.tables e below (T2.setTop (mkF m 4 #[rv sf] [(.long (0 : Int64))])) _
    refine XS.lconst X2.here hx rfl (hb hby d3_4) ?_
    show Steps p.tables e below (T2.setTop (mkF m 5 #[rv sf] [(.long (0 : Int64)), (.long (0 : Int64))])) _
    refine XS.lcmp X2.here hx rfl (hb hby d3_5) rfl ?_
    show Steps p.tables e below (T2.setTop (mkF m 6 #[rv sf] [(.int (lcmpW (0 : Int64) (0 : Int64)))])) _
    refine XS.ifNo X2.here hx rfl (hb hby d3_6) rfl (XT.i0_ne_f (by decide)) ?_
    show Steps p.tables e below (T2.setTop (mkF m 9 #[rv sf] [])) _
    refine XS.dconst0 X2.here hx rfl (hb hby d3_9) (v := (0 : UInt64)) rfl ?_
    show Steps p.tables e below (T2.setTop (mkF m 10 #[rv sf] [(.double (0 : UInt64))])) _
    refine XS.goto X2.here hx rfl (pc0 := 10) (pc' := 24) rfl (hb hby d3_10) (by decide) (by decide) ?_
    exact kt
  obtain ⟨fs, hr, hrun, hended, hW, hsame⟩ := X2.leave (v := some (.double (0 : UInt64))) (fun h => by rw [Bd.returns] at h; cases h)
  refine ⟨_, _, pre4 _ (own_retD X2 hx Bd.returns (hb hby d3_24) hr), hrun, hended, _, _, rfl, ?_, ⟨_, rfl⟩, hW, hsame.mono (by decide) (by decide)⟩
  show Q_avg0 Z sf h0 n0 _ T2.heap _
  rw [e2]
  exact ⟨rfl, N0, rfl⟩
theorem d3_13 : decode prog_70_method_8_code 13 = .ok (.aload_n 0, 1) := by decide +kernel
theorem d3_14 : decode prog_70_method_8_code 14 = .ok (.getfield 25, 3) := by decide +kernel
theorem d3_17 : decode prog_70_method_8_code 17 = .ok (.l2d, 1) := by decide +kernel
theorem d3_18 : decode prog_70_method_8_code 18 = .ok (.aload_n 0, 1) := by decide +kernel
theorem d3_19 : decode prog_70_method_8_code 19 = .ok (.getfield 19, 3) := by decide +kernel
theorem d3_22 : decode prog_70_method_8_code 22 = .ok (.l2d, 1) := by decide +kernel
theorem d3_23 : decode prog_70_method_8_code 23 = .ok (.ddiv, 1) := by decide +kernel
def Q_avg1 (Z : State) (sf : Addr) (cc : Int64) (rt : Int64) (h0 : Heap) (n0 : Nat) (v : Option Value) (h : Heap) (L : List Loc) : Prop := v = some (.double (FP.ddiv (FP.l2d rt) (FP.l2d cc))) ∧ Fr n0 L ∧ h = h0
set_option maxRecDepth 65536 in
set_option maxHeartbeats 40000000 in
theorem rm_avg1 (l : Launch) (Z : State) (a0 : Array Value) (hw : ∀ d ∈ tables_1, d.before a0 Z = true) (ws : List Jvm.Cond) (sf : Addr) (cc : Int64) (rt : Int64) (h0 : Heap) (n0 : Nat) (O0 : Old Z n0 h0) (Fi0 : Exa Z h0 sf "com/example/osier/osier/SecondFigures") (Fi1 : Fld Z h0 sf "com/example/osier/osier/SecondFigures" "completed" "J" (.long cc)) (Fi2 : Fld Z h0 sf "com/example/osier/osier/SecondFigures" "responseTimeMillis" "J" (.long rt)) (hcc : cc ≠ (0 : Int64)) :
    MetFree l (⟨"com/example/osier/osier/SecondFigures", "averageResponseTimeMillis", "()D"⟩ : MethodName) (head1 (Jvm.Cond.code (⟨"com/example/osier/osier/SecondFigures", "averageResponseTimeMillis", "()D"⟩ : MethodName) prog_70_method_8_code 1 (some .double) :: ws) ({ frames := 0, cells := 0, slots := 0, locals := 0 } : Room)) (fun a U => a = #[(.ref sf)] ∧ Z.Warmed39 U.vm ∧ U.heap = h0) (fun _ _ _ _ _ => True) (fun _ U o U' => ∃ v L, o = .returned v ∧ Q_avg1 Z sf cc rt h0 n0 v U'.heap L ∧ FrameEnd U o U' L ({ frames := 0, cells := 0, slots := 0, locals := 0 } : Room).cells ({ frames := 0, cells := 0, slots := 0, locals := 0 } : Room).slots) := by
  refine MetFree.of_bodySF (plainFor_of_name pn_0) hisR ?_
  intro p e s m args below meth c s₁ Bd hml0 hP hK
  have W := fun {d : Jvm.Cond} (i : Nat) (q : tables_1[i]? = some d) => hw d (List.mem_of_getElem? q)
  obtain ⟨rfl, hZ, hh⟩ := hP
  have hx := Bd.exec
  have hby := Bd.bytes
  have hml : c.maxLocals = 1 := hml0
  have hown : s.vm.findClass "com/example/osier/osier/SecondFigures" = some m.cls := findClass_of_methodNamed Bd.named
  have hnm := (name_of_methodNamed Bd.named Bd.method).1
  have X0 : Stand p l e ({ frames := 0, cells := 0, slots := 0, locals := 0 } : Room) s m #[(.ref sf)] below meth c s₁ [] 0 0 := Stand.of_body Bd
  have e0 : s₁.heap = h0 := by rw [← hh, Bd.state]; rfl
  have N0 := Fr.nil n0
  have pre0 : ∀ t, Steps p.tables e below (s₁.setTop (mkF m 0 #[rv sf] [])) t → Steps p.tables e below (s₁.setTop (entryFrame m #[(.ref sf)] 1)) t := fun t k => castTop (ef_1 m sf) k
  have K0 : Keep h0 h0 [] := Keep.refl h0 []
  have pre5 : ∀ t, Steps p.tables e below (s₁.setTop (mkF m 1 #[rv sf] [(.ref sf)])) t → Steps p.tables e below (s₁.setTop (entryFrame m #[(.ref sf)] 1)) t := fun t kt => by
    refine pre0 _ ?_
    show Steps p.tables e below (s₁.setTop (mkF m 0 #[rv sf] [])) _
    refine XS.aloadN X0.here hx rfl (hb hby d3_0) rfl rfl ?_
    exact kt
  obtain ⟨T6, X6, e6, st6⟩ := getF X0 hx hZ hown (host := "") (Or.inl (W 17 rfl)) Via.refl e0 Fi1 (g := (mkF m 1 #[rv sf] [(.ref sf)])) rfl rfl (hb hby d3_1)
  have pre7 : ∀ t, Steps p.tables e below (T6.setTop (mkF m 4 #[rv sf] [(.long cc)])) t → Steps p.tables e below (s₁.setTop (entryFrame m #[(.ref sf)] 1)) t := fun t kt => pre5 _ (st6 _ kt)
  have pre8 : ∀ t, Steps p.tables e below (T6.setTop (mkF m 14 #[rv sf] [(.ref sf)])) t → Steps p.tables e below (s₁.setTop (entryFrame m #[(.ref sf)] 1)) t := fun t kt => by
    refine pre7 _ ?_
    show Steps p.tables e below (T6.setTop (mkF m 4 #[rv sf] [(.long cc)])) _
    refine XS.lconst X6.here hx rfl (hb hby d3_4) ?_
    show Steps p.tables e below (T6.setTop (mkF m 5 #[rv sf] [(.long (0 : Int64)), (.long cc)])) _
    refine XS.lcmp X6.here hx rfl (hb hby d3_5) rfl ?_
    show Steps p.tables e below (T6.setTop (mkF m 6 #[rv sf] [(.int (lcmpW cc (0 : Int64)))])) _
    refine XS.ifYes X6.here hx rfl (pc0 := 6) (pc' := 13) rfl (hb hby d3_6) rfl (XT.i0_ne_t (own_lc hcc)) (by decide) (by decide) ?_
    show Steps p.tables e below (T6.setTop (mkF m 13 #[rv sf] [])) _
    refine XS.aloadN X6.here hx rfl (hb hby d3_13) rfl rfl ?_
    exact kt
  obtain ⟨T9, X9, e9, st9⟩ := getF X6 hx hZ hown (host := "") (Or.inl (W 21 rfl)) Via.refl e6 Fi2 (g := (mkF m 14 #[rv sf] [(.ref sf)])) rfl rfl (hb hby d3_14)
  have pre10 : ∀ t, Steps p.tables e below (T9.setTop (mkF m 17 #[rv sf] [(.long rt)])) t → Steps p.tables e below (s₁.setTop (entryFrame m #[(.ref sf)] 1)) t := fun t kt => pre8 _ (st9 _ kt)
  have pre11 : ∀ t, Steps p.tables e below (T9.setTop (mkF m 19 #[rv sf] [(.ref sf), (.double (FP.l2d rt))])) t → Steps p.tables e below (s₁.setTop (entryFrame m #[(.ref sf)] 1)) t := fun t kt => by
    refine pre10 _ ?_
    show Steps p.tables e below (T9.setTop (mkF m 17 #[rv sf] [(.long rt)])) _
    refine XS.l2dS X9.here hx rfl (hb hby d3_17) rfl rfl ?_
    show Steps p.tables e below (T9.setTop (mkF m 18 #[rv sf] [(.double (FP.l2d rt))])) _
    refine XS.aloadN X9.here hx rfl (hb hby d3_18) rfl rfl ?_
    exact kt
  obtain ⟨T12, X12, e12, st12⟩ := getF X9 hx hZ hown (host := "") (Or.inl (W 17 rfl)) Via.refl e9 Fi1 (g := (mkF m 19 #[rv sf] [(.ref sf), (.double (FP.l2d rt))])) rfl rfl (hb hby d3_19)
  have pre13 : ∀ t, Steps p.tables e below (T12.setTop (mkF m 22 #[rv sf] [(.long cc), (.double (FP.l2d rt))])) t → Steps p.tables e below (s₁.setTop (entryFrame m #[(.ref sf)] 1)) t := fun t kt => pre11 _ (st12 _ kt)
  have pre14 : ∀ t, Steps p.tables e below (T12.setTop (mkF m 24 #[rv sf] [(.double (FP.ddiv (FP.l2d rt) (FP.l2d cc)))])) t → Steps p.tables e below (s₁.setTop (entryFrame m #[(.ref sf)] 1)) t := fun t kt => by
    refine pre13 _ ?_
    show Steps p.tables e below (T12.setTop (mkF m 22 #[rv sf] [(.long cc), (.double (FP.l2d rt))])) _
    refine XS.l2dS X12.here hx rfl (hb hby d3_22) rfl rfl ?_
    show Steps p.tables e below (T12.setTop (mkF m 23 #[rv sf] [(.double (FP.l2d cc)), (.double (FP.l2d rt))])) _
    refine XS.ddivS X12.here hx rfl (hb hby d3_23) rfl (own_dv hcc) rfl ?_
    exact kt
  obtain ⟨fs, hr, hrun, hended, hW, hsame⟩ := X12.leave (v := some (.double (FP.ddiv (FP.l2d rt) (FP.l2d cc)))) (fun h => by rw [Bd.returns] at h; cases h)
  refine ⟨_, _, pre14 _ (own_retD X12 hx Bd.returns (hb hby d3_24) hr), hrun, hended, _, _, rfl, ?_, ⟨_, rfl⟩, hW, hsame.mono (by decide) (by decide)⟩
  show Q_avg1 Z sf cc rt h0 n0 _ T12.heap _
  rw [e12]
  exact ⟨rfl, N0, rfl⟩
theorem pn_2 : plainName "com/example/osier/osier/SecondFiguresAverageResponseTimeMillisPinLaw" = true := by first | (simp [plainName, overriddenIn]; done) | decide +kernel
theorem ef_3 (m : MethodId) (x0 : Int64) (x1 : Int64) (x2 : Int32) (x3 : Int32) (x4 : Int32) (x5 : Int32) : entryFrame m #[(.long x0), (.long x1), (.int x2), (.int x3), (.int x4), (.int x5)] maxLocals = mkF m 0 #[.val (.long x0), .second, .val (.long x1), .second, .val (.int x2), .val (.int x3), .val (.int x4), .val (.int x5), .unset, .unset, .unset, .unset, .unset, .unset, .unset, .unset, .unset, .unset, .unset, .unset, .unset, .unset, .unset] [] := by first | (simp [entryFrame, mkF, argsToLocals, Value.category, maxLocals]; done) | rfl
theorem d1_0 : decode prog_70_method_1_code 0 = .ok (.aload_n 0, 1) := by decide +kernel
theorem d1_1 : decode prog_70_method_1_code 1 = .ok (.invokespecial 1, 3) := by decide +kernel
theorem d1_4 : decode prog_70_method_1_code 4 = .ok (.aload_n 0, 1) := by decide +kernel
theorem d1_5 : decode prog_70_method_1_code 5 = .ok (.lload_n 1, 1) := by decide +kernel
theorem d1_6 : decode prog_70_method_1_code 6 = .ok (.putfield 7, 3) := by decide +kernel
theorem d1_9 : decode prog_70_method_1_code 9 = .ok (.aload_n 0, 1) := by decide +kernel
theorem d1_10 : decode prog_70_method_1_code 10 = .ok (.lload_n 3, 1) := by decide +kernel
theorem d1_11 : decode prog_70_method_1_code 11 = .ok (.putfield 13, 3) := by decide +kernel
theorem d1_14 : decode prog_70_method_1_code 14 = .ok (.aload_n 0, 1) := by decide +kernel
theorem d1_15 : decode prog_70_method_1_code 15 = .ok (.lload 5, 2) := by decide +kernel
theorem d1_17 : decode prog_70_method_1_code 17 = .ok (.putfield 16, 3) := by decide +kernel
theorem d1_20 : decode prog_70_method_1_code 20 = .ok (.aload_n 0, 1) := by decide +kernel
theorem d1_21 : decode prog_70_method_1_code 21 = .ok (.lload 7, 2) := by decide +kernel
theorem d1_23 : decode prog_70_method_1_code 23 = .ok (.putfield 19, 3) := by decide +kernel
theorem d1_26 : decode prog_70_method_1_code 26 = .ok (.aload_n 0, 1) := by decide +kernel
theorem d1_27 : decode prog_70_method_1_code 27 = .ok (.lload 9, 2) := by decide +kernel
theorem d1_29 : decode prog_70_method_1_code 29 = .ok (.putfield 22, 3) := by decide +kernel
theorem d1_32 : decode prog_70_method_1_code 32 = .ok (.aload_n 0, 1) := by decide +kernel
theorem d1_33 : decode prog_70_method_1_code 33 = .ok (.lload 11, 2) := by decide +kernel
theorem d1_35 : decode prog_70_method_1_code 35 = .ok (.putfield 25, 3) := by decide +kernel
theorem d1_38 : decode prog_70_method_1_code 38 = .ok (.aload_n 0, 1) := by decide +kernel
theorem d1_39 : decode prog_70_method_1_code 39 = .ok (.lload 13, 2) := by decide +kernel
theorem d1_41 : decode prog_70_method_1_code 41 = .ok (.putfield 28, 3) := by decide +kernel
theorem d1_44 : decode prog_70_method_1_code 44 = .ok (.return_, 1) := by decide +kernel
theorem ef_4 (m : MethodId) (x0 : Addr) (x1 : Int64) (x2 : Int64) (x3 : Int64) (x4 : Int64) (x5 : Int64) (x6 : Int64) (x7 : Int64) : entryFrame m #[(.ref x0), (.long x1), (.long x2), (.long x3), (.long x4), (.long x5), (.long x6), (.long x7)] 15 = mkF m 0 #[.val (.ref x0), .val (.long x1), .second, .val (.long x2), .second, .val (.long x3), .second, .val (.long x4), .second, .val (.long x5), .second, .val (.long x6), .second, .val (.long x7), .second] [] := by first | (simp [entryFrame, mkF, argsToLocals, Value.category]; done) | rfl
def Q_init1_0 (Z : State) (b18 : Addr) (p1 : Int64) (p0 : Int64) (h0 : Heap) (n0 : Nat) (v : Option Value) (h : Heap) (L : List Loc) : Prop := v = none ∧ Fr n0 L ∧ Keep h0 h [b18] ∧ Old Z n0 h ∧ Exa Z h b18 "com/example/osier/osier/SecondFigures" ∧ Fld Z h b18 "com/example/osier/osier/SecondFigures" "startMillis" "J" (.long p1) ∧ Fld Z h b18 "com/example/osier/osier/SecondFigures" "admitted" "J" (.long p1) ∧ Fld Z h b18 "com/example/osier/osier/SecondFigures" "refused" "J" (.long p1) ∧ Fld Z h b18 "com/example/osier/osier/SecondFigures" "completed" "J" (.long (0 : Int64)) ∧ Fld Z h b18 "com/example/osier/osier/SecondFigures" "errors" "J" (.long p1) ∧ Fld Z h b18 "com/example/osier/osier/SecondFigures" "responseTimeMillis" "J" (.long p0) ∧ Fld Z h b18 "com/example/osier/osier/SecondFigures" "inside" "J" (.long p1)
set_option maxRecDepth 65536 in
set_option maxHeartbeats 40000000 in
theorem rm_init1_0 (l : Launch) (Z : State) (a0 : Array Value) (hw : ∀ d ∈ tables_1, d.before a0 Z = true) (ws : List Jvm.Cond) (b18 : Addr) (p1 : Int64) (p0 : Int64) (h0 : Heap) (n0 : Nat) (O0 : Old Z n0 h0) (g_b18 : n0 ≤ b18) (Fi0 : Exa Z h0 b18 "com/example/osier/osier/SecondFigures") (Fi1 : Fld Z h0 b18 "com/example/osier/osier/SecondFigures" "startMillis" "J" (.long (0 : Int64))) (Fi2 : Fld Z h0 b18 "com/example/osier/osier/SecondFigures" "admitted" "J" (.long (0 : Int64))) (Fi3 : Fld Z h0 b18 "com/example/osier/osier/SecondFigures" "refused" "J" (.long (0 : Int64))) (Fi4 : Fld Z h0 b18 "com/example/osier/osier/SecondFigures" "completed" "J" (.long (0 : Int64))) (Fi5 : Fld Z h0 b18 "com/example/osier/osier/SecondFigures" "errors" "J" (.long (0 : Int64))) (Fi6 : Fld Z h0 b18 "com/example/osier/osier/SecondFigures" "responseTimeMillis" "J" (.long (0 : Int64))) (Fi7 : Fld Z h0 b18 "com/example/osier/osier/SecondFigures" "inside" "J" (.long (0 : Int64))) :
    MetFree l (⟨"com/example/osier/osier/SecondFigures", "<init>", "(JJJJJJJ)V"⟩ : MethodName) (head1 (Jvm.Cond.code (⟨"com/example/osier/osier/SecondFigures", "<init>", "(JJJJJJJ)V"⟩ : MethodName) prog_70_method_1_code 15 none :: ws) ({ frames := 1, cells := 0, slots := 0, locals := 12 } : Room)) (fun a U => a = #[(.ref b18), (.long p1), (.long p1), (.long p1), (.long (0 : Int64)), (.long p1), (.long p0), (.long p1)] ∧ Z.Warmed39 U.vm ∧ U.heap = h0) (fun _ _ _ _ _ => True) (fun _ U o U' => ∃ v L, o = .returned v ∧ Q_init1_0 Z b18 p1 p0 h0 n0 v U'.heap L ∧ FrameEnd U o U' L ({ frames := 1, cells := 0, slots := 0, locals := 12 } : Room).cells ({ frames := 1, cells := 0, slots := 0, locals := 12 } : Room).slots) := by
  refine MetFree.of_bodySF (plainFor_of_name pn_0) hisR ?_
  intro p e s m args below meth c s₁ Bd hml0 hP hK
  have W := fun {d : Jvm.Cond} (i : Nat) (q : tables_1[i]? = some d) => hw d (List.mem_of_getElem? q)
  obtain ⟨rfl, hZ, hh⟩ := hP
  have hx := Bd.exec
  have hby := Bd.bytes
  have hml : c.maxLocals = 15 := hml0
  have hown : s.vm.findClass "com/example/osier/osier/SecondFigures" = some m.cls := findClass_of_methodNamed Bd.named
  have hnm := (name_of_methodNamed Bd.named Bd.method).1
  have X0 : Stand p l e ({ frames := 1, cells := 0, slots := 0, locals := 12 } : Room) s m #[(.ref b18), (.long p1), (.long p1), (.long p1), (.long (0 : Int64)), (.long p1), (.long p0), (.long p1)] below meth c s₁ [] 0 0 := Stand.of_body Bd
  have e0 : s₁.heap = h0 := by rw [← hh, Bd.state]; rfl
  have N0 := Fr.nil n0
  have pre0 : ∀ t, Steps p.tables e below (s₁.setTop (mkF m 0 #[rv b18, .val (.long p1), .second, .val (.long p1), .second, .val (.long p1), .second, .val (.long (0 : Int64)), .second, .val (.long p1), .second, .val (.long p0), .second, .val (.long p1), .second] [])) t → Steps p.tables e below (s₁.setTop (entryFrame m #[(.ref b18), (.long p1), (.long p1), (.long p1), (.long (0 : Int64)), (.long p1), (.long p0), (.long p1)] 15)) t := fun t k => castTop (ef_4 m b18 p1 p1 p1 (0 : Int64) p1 p0 p1) k
  have K0 : Keep h0 h0 [b18] := Keep.refl h0 [b18]
  have pre190 : ∀ t, Steps p.tables e below (s₁.setTop (mkF m 1 #[rv b18, .val (.long p1), .second, .val (.long p1), .second, .val (.long p1), .second, .val (.long (0 : Int64)), .second, .val (.long p1), .second, .val (.long p0), .second, .val (.long p1), .second] [(.ref b18)])) t → Steps p.tables e below (s₁.setTop (entryFrame m #[(.ref b18), (.long p1), (.long p1), (.long p1), (.long (0 : Int64)), (.long p1), (.long p0), (.long p1)] 15)) t := fun t kt => by
    refine pre0 _ ?_
    show Steps p.tables e below (s₁.setTop (mkF m 0 #[rv b18, .val (.long p1), .second, .val (.long p1), .second, .val (.long p1), .second, .val (.long (0 : Int64)), .second, .val (.long p1), .second, .val (.long p0), .second, .val (.long p1), .second] [])) _
    refine XS.aloadN X0.here hx rfl (hb hby d1_0) rfl rfl ?_
    exact kt
  obtain ⟨T191, X191, e191, st191⟩ := initO X0 hx hZ hown (W 8 rfl) (W 9 rfl) (W 10 rfl) e0 (g := (mkF m 1 #[rv b18, .val (.long p1), .second, .val (.long p1), .second, .val (.long p1), .second, .val (.long (0 : Int64)), .second, .val (.long p1), .second, .val (.long p0), .second, .val (.long p1), .second] [(.ref b18)])) rfl (by rw [hml]; rfl) rfl (hb hby d1_1) (by decide) (W := 0) (by show 2 * 0 + _ ≤ _; exact Nat.le_of_eq rfl) (by decide)
  have pre192 : ∀ t, Steps p.tables e below (T191.setTop (mkF m 4 #[rv b18, .val (.long p1), .second, .val (.long p1), .second, .val (.long p1), .second, .val (.long (0 : Int64)), .second, .val (.long p1), .second, .val (.long p0), .second, .val (.long p1), .second] [])) t → Steps p.tables e below (s₁.setTop (entryFrame m #[(.ref b18), (.long p1), (.long p1), (.long p1), (.long (0 : Int64)), (.long p1), (.long p0), (.long p1)] 15)) t := fun t kt => pre190 _ (st191 _ kt)
  have pre193 : ∀ t, Steps p.tables e below (T191.setTop (mkF m 6 #[rv b18, .val (.long p1), .second, .val (.long p1), .second, .val (.long p1), .second, .val (.long (0 : Int64)), .second, .val (.long p1), .second, .val (.long p0), .second, .val (.long p1), .second] [(.long p1), (.ref b18)])) t → Steps p.tables e below (s₁.setTop (entryFrame m #[(.ref b18), (.long p1), (.long p1), (.long p1), (.long (0 : Int64)), (.long p1), (.long p0), (.long p1)] 15)) t := fun t kt => by
    refine pre192 _ ?_
    show Steps p.tables e below (T191.setTop (mkF m 4 #[rv b18, .val (.long p1), .second, .val (.long p1), .second, .val (.long p1), .second, .val (.long (0 : Int64)), .second, .val (.long p1), .second, .val (.long p0), .second, .val (.long p1), .second] [])) _
    refine XS.aloadN X191.here hx rfl (hb hby d1_4) rfl rfl ?_
    show Steps p.tables e below (T191.setTop (mkF m 5 #[rv b18, .val (.long p1), .second, .val (.long p1), .second, .val (.long p1), .second, .val (.long (0 : Int64)), .second, .val (.long p1), .second, .val (.long p0), .second, .val (.long p1), .second] [(.ref b18)])) _
    refine XS.lloadN X191.here hx rfl (hb hby d1_5) rfl ?_
    exact kt
  obtain ⟨T194, h194, X194, e194, W194, st194⟩ := putF X191 hx hZ hown (host := "") (Or.inl (W 11 rfl)) Via.refl e191 Fi1 Fi0 (Or.inr ⟨(W 12 rfl), rfl, hnm⟩) (W 3 rfl) (ty := .long) (by decide) rfl rfl (g := (mkF m 6 #[rv b18, .val (.long p1), .second, .val (.long p1), .second, .val (.long p1), .second, .val (.long (0 : Int64)), .second, .val (.long p1), .second, .val (.long p0), .second, .val (.long p1), .second] [(.long p1), (.ref b18)])) rfl rfl (hb hby d1_6)
  have pre195 : ∀ t, Steps p.tables e below (T194.setTop (mkF m 9 #[rv b18, .val (.long p1), .second, .val (.long p1), .second, .val (.long p1), .second, .val (.long (0 : Int64)), .second, .val (.long p1), .second, .val (.long p0), .second, .val (.long p1), .second] [])) t → Steps p.tables e below (s₁.setTop (entryFrame m #[(.ref b18), (.long p1), (.long p1), (.long p1), (.long (0 : Int64)), (.long p1), (.long p0), (.long p1)] 15)) t := fun t kt => pre193 _ (st194 _ kt)
  have N194 := Fr.snoc X194 N0 g_b18
  have O194 := O0.wr W194 g_b18
  have K194 : Keep h0 h194 [b18] := K0.wr W194 (Or.inl (List.mem_of_getElem? (i := 0) rfl))
  have F196 := Fi0.wr W194
  have F197 := Fi2.other W194 (Or.inr (slot_ne (Or.inr (W 14 rfl)) (Or.inr (W 12 rfl)) (by decide) (t := .long) (t' := .long) (by decide) (by decide)))
  have F198 := Fi3.other W194 (Or.inr (slot_ne (Or.inr (W 16 rfl)) (Or.inr (W 12 rfl)) (by decide) (t := .long) (t' := .long) (by decide) (by decide)))
  have F199 := Fi4.other W194 (Or.inr (slot_ne (Or.inr (W 18 rfl)) (Or.inr (W 12 rfl)) (by decide) (t := .long) (t' := .long) (by decide) (by decide)))
  have F200 := Fi5.other W194 (Or.inr (slot_ne (Or.inr (W 20 rfl)) (Or.inr (W 12 rfl)) (by decide) (t := .long) (t' := .long) (by decide) (by decide)))
  have F201 := Fi6.other W194 (Or.inr (slot_ne (Or.inr (W 22 rfl)) (Or.inr (W 12 rfl)) (by decide) (t := .long) (t' := .long) (by decide) (by decide)))
  have F202 := Fi7.other W194 (Or.inr (slot_ne (Or.inr (W 24 rfl)) (Or.inr (W 12 rfl)) (by decide) (t := .long) (t' := .long) (by decide) (by decide)))
  have F203 : Fld Z h194 b18 "com/example/osier/osier/SecondFigures" "startMillis" "J" (.long p1) := Fi1.same W194
  have pre204 : ∀ t, Steps p.tables e below (T194.setTop (mkF m 11 #[rv b18, .val (.long p1), .second, .val (.long p1), .second, .val (.long p1), .second, .val (.long (0 : Int64)), .second, .val (.long p1), .second, .val (.long p0), .second, .val (.long p1), .second] [(.long p1), (.ref b18)])) t → Steps p.tables e below (s₁.setTop (entryFrame m #[(.ref b18), (.long p1), (.long p1), (.long p1), (.long (0 : Int64)), (.long p1), (.long p0), (.long p1)] 15)) t := fun t kt => by
    refine pre195 _ ?_
    show Steps p.tables e below (T194.setTop (mkF m 9 #[rv b18, .val (.long p1), .second, .val (.long p1), .second, .val (.long p1), .second, .val (.long (0 : Int64)), .second, .val (.long p1), .second, .val (.long p0), .second, .val (.long p1), .second] [])) _
    refine XS.aloadN X194.here hx rfl (hb hby d1_9) rfl rfl ?_
    show Steps p.tables e below (T194.setTop (mkF m 10 #[rv b18, .val (.long p1), .second, .val (.long p1), .second, .val (.long p1), .second, .val (.long (0 : Int64)), .second, .val (.long p1), .second, .val (.long p0), .second, .val (.long p1), .second] [(.ref b18)])) _
    refine XS.lloadN X194.here hx rfl (hb hby d1_10) rfl ?_
    exact kt
  obtain ⟨T205, h205, X205, e205, W205, st205⟩ := putF X194 hx hZ hown (host := "") (Or.inl (W 13 rfl)) Via.refl e194 F197 F196 (Or.inr ⟨(W 14 rfl), rfl, hnm⟩) (W 3 rfl) (ty := .long) (by decide) rfl rfl (g := (mkF m 11 #[rv b18, .val (.long p1), .second, .val (.long p1), .second, .val (.long p1), .second, .val (.long (0 : Int64)), .second, .val (.long p1), .second, .val (.long p0), .second, .val (.long p1), .second] [(.long p1), (.ref b18)])) rfl rfl (hb hby d1_11)
  have pre206 : ∀ t, Steps p.tables e below (T205.setTop (mkF m 14 #[rv b18, .val (.long p1), .second, .val (.long p1), .second, .val (.long p1), .second, .val (.long (0 : Int64)), .second, .val (.long p1), .second, .val (.long p0), .second, .val (.long p1), .second] [])) t → Steps p.tables e below (s₁.setTop (entryFrame m #[(.ref b18), (.long p1), (.long p1), (.long p1), (.long (0 : Int64)), (.long p1), (.long p0), (.long p1)] 15)) t := fun t kt => pre204 _ (st205 _ kt)
  have N205 := Fr.snoc X205 N194 g_b18
  have O205 := O194.wr W205 g_b18
  have K205 : Keep h0 h205 [b18] := K194.wr W205 (Or.inl (List.mem_of_getElem? (i := 0) rfl))
  have F207 := F196.wr W205
  have F208 := F198.other W205 (Or.inr (slot_ne (Or.inr (W 16 rfl)) (Or.inr (W 14 rfl)) (by decide) (t := .long) (t' := .long) (by decide) (by decide)))
  have F209 := F199.other W205 (Or.inr (slot_ne (Or.inr (W 18 rfl)) (Or.inr (W 14 rfl)) (by decide) (t := .long) (t' := .long) (by decide) (by decide)))
  have F210 := F200.other W205 (Or.inr (slot_ne (Or.inr (W 20 rfl)) (Or.inr (W 14 rfl)) (by decide) (t := .long) (t' := .long) (by decide) (by decide)))
  have F211 := F201.other W205 (Or.inr (slot_ne (Or.inr (W 22 rfl)) (Or.inr (W 14 rfl)) (by decide) (t := .long) (t' := .long) (by decide) (by decide)))
  have F212 := F202.other W205 (Or.inr (slot_ne (Or.inr (W 24 rfl)) (Or.inr (W 14 rfl)) (by decide) (t := .long) (t' := .long) (by decide) (by decide)))
  have F213 := F203.other W205 (Or.inr (slot_ne (Or.inr (W 12 rfl)) (Or.inr (W 14 rfl)) (by decide) (t := .long) (t' := .long) (by decide) (by decide)))
  have F214 : Fld Z h205 b18 "com/example/osier/osier/SecondFigures" "admitted" "J" (.long p1) := F197.same W205
  have pre215 : ∀ t, Steps p.tables e below (T205.setTop (mkF m 17 #[rv b18, .val (.long p1), .second, .val (.long p1), .second, .val (.long p1), .second, .val (.long (0 : Int64)), .second, .val (.long p1), .second, .val (.long p0), .second, .val (.long p1), .second] [(.long p1), (.ref b18)])) t → Steps p.tables e below (s₁.setTop (entryFrame m #[(.ref b18), (.long p1), (.long p1), (.long p1), (.long (0 : Int64)), (.long p1), (.long p0), (.long p1)] 15)) t := fun t kt => by
    refine pre206 _ ?_
    show Steps p.tables e below (T205.setTop (mkF m 14 #[rv b18, .val (.long p1), .second, .val (.long p1), .second, .val (.long p1), .second, .val (.long (0 : Int64)), .second, .val (.long p1), .second, .val (.long p0), .second, .val (.long p1), .second] [])) _
    refine XS.aloadN X205.here hx rfl (hb hby d1_14) rfl rfl ?_
    show Steps p.tables e below (T205.setTop (mkF m 15 #[rv b18, .val (.long p1), .second, .val (.long p1), .second, .val (.long p1), .second, .val (.long (0 : Int64)), .second, .val (.long p1), .second, .val (.long p0), .second, .val (.long p1), .second] [(.ref b18)])) _
    refine XS.lload X205.here hx rfl (hb hby d1_15) rfl ?_
    exact kt
  obtain ⟨T216, h216, X216, e216, W216, st216⟩ := putF X205 hx hZ hown (host := "") (Or.inl (W 15 rfl)) Via.refl e205 F208 F207 (Or.inr ⟨(W 16 rfl), rfl, hnm⟩) (W 3 rfl) (ty := .long) (by decide) rfl rfl (g := (mkF m 17 #[rv b18, .val (.long p1), .second, .val (.long p1), .second, .val (.long p1), .second, .val (.long (0 : Int64)), .second, .val (.long p1), .second, .val (.long p0), .second, .val (.long p1), .second] [(.long p1), (.ref b18)])) rfl rfl (hb hby d1_17)
  have pre217 : ∀ t, Steps p.tables e below (T216.setTop (mkF m 20 #[rv b18, .val (.long p1), .second, .val (.long p1), .second, .val (.long p1), .second, .val (.long (0 : Int64)), .second, .val (.long p1), .second, .val (.long p0), .second, .val (.long p1), .second] [])) t → Steps p.tables e below (s₁.setTop (entryFrame m #[(.ref b18), (.long p1), (.long p1), (.long p1), (.long (0 : Int64)), (.long p1), (.long p0), (.long p1)] 15)) t := fun t kt => pre215 _ (st216 _ kt)
  have N216 := Fr.snoc X216 N205 g_b18
  have O216 := O205.wr W216 g_b18
  have K216 : Keep h0 h216 [b18] := K205.wr W216 (Or.inl (List.mem_of_getElem? (i := 0) rfl))
  have F218 := F207.wr W216
  have F219 := F209.other W216 (Or.inr (slot_ne (Or.inr (W 18 rfl)) (Or.inr (W 16 rfl)) (by decide) (t := .long) (t' := .long) (by decide) (by decide)))
  have F220 := F210.other W216 (Or.inr (slot_ne (Or.inr (W 20 rfl)) (Or.inr (W 16 rfl)) (by decide) (t := .long) (t' := .long) (by decide) (by decide)))
  have F221 := F211.other W216 (Or.inr (slot_ne (Or.inr (W 22 rfl)) (Or.inr (W 16 rfl)) (by decide) (t := .long) (t' := .long) (by decide) (by decide)))
  have F222 := F212.other W216 (Or.inr (slot_ne (Or.inr (W 24 rfl)) (Or.inr (W 16 rfl)) (by decide) (t := .long) (t' := .long) (by decide) (by decide)))
  have F223 := F213.other W216 (Or.inr (slot_ne (Or.inr (W 12 rfl)) (Or.inr (W 16 rfl)) (by decide) (t := .long) (t' := .long) (by decide) (by decide)))
  have F224 := F214.other W216 (Or.inr (slot_ne (Or.inr (W 14 rfl)) (Or.inr (W 16 rfl)) (by decide) (t := .long) (t' := .long) (by decide) (by decide)))
  have F225 : Fld Z h216 b18 "com/example/osier/osier/SecondFigures" "refused" "J" (.long p1) := F208.same W216
  have pre226 : ∀ t, Steps p.tables e below (T216.setTop (mkF m 23 #[rv b18, .val (.long p1), .second, .val (.long p1), .second, .val (.long p1), .second, .val (.long (0 : Int64)), .second, .val (.long p1), .second, .val (.long p0), .second, .val (.long p1), .second] [(.long (0 : Int64)), (.ref b18)])) t → Steps p.tables e below (s₁.setTop (entryFrame m #[(.ref b18), (.long p1), (.long p1), (.long p1), (.long (0 : Int64)), (.long p1), (.long p0), (.long p1)] 15)) t := fun t kt => by
    refine pre217 _ ?_
    show Steps p.tables e below (T216.setTop (mkF m 20 #[rv b18, .val (.long p1), .second, .val (.long p1), .second, .val (.long p1), .second, .val (.long (0 : Int64)), .second, .val (.long p1), .second, .val (.long p0), .second, .val (.long p1), .second] [])) _
    refine XS.aloadN X216.here hx rfl (hb hby d1_20) rfl rfl ?_
    show Steps p.tables e below (T216.setTop (mkF m 21 #[rv b18, .val (.long p1), .second, .val (.long p1), .second, .val (.long p1), .second, .val (.long (0 : Int64)), .second, .val (.long p1), .second, .val (.long p0), .second, .val (.long p1), .second] [(.ref b18)])) _
    refine XS.lload X216.here hx rfl (hb hby d1_21) rfl ?_
    exact kt
  obtain ⟨T227, h227, X227, e227, W227, st227⟩ := putF X216 hx hZ hown (host := "") (Or.inl (W 17 rfl)) Via.refl e216 F219 F218 (Or.inr ⟨(W 18 rfl), rfl, hnm⟩) (W 3 rfl) (ty := .long) (by decide) rfl rfl (g := (mkF m 23 #[rv b18, .val (.long p1), .second, .val (.long p1), .second, .val (.long p1), .second, .val (.long (0 : Int64)), .second, .val (.long p1), .second, .val (.long p0), .second, .val (.long p1), .second] [(.long (0 : Int64)), (.ref b18)])) rfl rfl (hb hby d1_23)
  have pre228 : ∀ t, Steps p.tables e below (T227.setTop (mkF m 26 #[rv b18, .val (.long p1), .second, .val (.long p1), .second, .val (.long p1), .second, .val (.long (0 : Int64)), .second, .val (.long p1), .second, .val (.long p0), .second, .val (.long p1), .second] [])) t → Steps p.tables e below (s₁.setTop (entryFrame m #[(.ref b18), (.long p1), (.long p1), (.long p1), (.long (0 : Int64)), (.long p1), (.long p0), (.long p1)] 15)) t := fun t kt => pre226 _ (st227 _ kt)
  have N227 := Fr.snoc X227 N216 g_b18
  have O227 := O216.wr W227 g_b18
  have K227 : Keep h0 h227 [b18] := K216.wr W227 (Or.inl (List.mem_of_getElem? (i := 0) rfl))
  have F229 := F218.wr W227
  have F230 := F220.other W227 (Or.inr (slot_ne (Or.inr (W 20 rfl)) (Or.inr (W 18 rfl)) (by decide) (t := .long) (t' := .long) (by decide) (by decide)))
  have F231 := F221.other W227 (Or.inr (slot_ne (Or.inr (W 22 rfl)) (Or.inr (W 18 rfl)) (by decide) (t := .long) (t' := .long) (by decide) (by decide)))
  have F232 := F222.other W227 (Or.inr (slot_ne (Or.inr (W 24 rfl)) (Or.inr (W 18 rfl)) (by decide) (t := .long) (t' := .long) (by decide) (by decide)))
  have F233 := F223.other W227 (Or.inr (slot_ne (Or.inr (W 12 rfl)) (Or.inr (W 18 rfl)) (by decide) (t := .long) (t' := .long) (by decide) (by decide)))
  have F234 := F224.other W227 (Or.inr (slot_ne (Or.inr (W 14 rfl)) (Or.inr (W 18 rfl)) (by decide) (t := .long) (t' := .long) (by decide) (by decide)))
  have F235 := F225.other W227 (Or.inr (slot_ne (Or.inr (W 16 rfl)) (Or.inr (W 18 rfl)) (by decide) (t := .long) (t' := .long) (by decide) (by decide)))
  have F236 : Fld Z h227 b18 "com/example/osier/osier/SecondFigures" "completed" "J" (.long (0 : Int64)) := F219.same W227
  have pre237 : ∀ t, Steps p.tables e below (T227.setTop (mkF m 29 #[rv b18, .val (.long p1), .second, .val (.long p1), .second, .val (.long p1), .second, .val (.long (0 : Int64)), .second, .val (.long p1), .second, .val (.long p0), .second, .val (.long p1), .second] [(.long p1), (.ref b18)])) t → Steps p.tables e below (s₁.setTop (entryFrame m #[(.ref b18), (.long p1), (.long p1), (.long p1), (.long (0 : Int64)), (.long p1), (.long p0), (.long p1)] 15)) t := fun t kt => by
    refine pre228 _ ?_
    show Steps p.tables e below (T227.setTop (mkF m 26 #[rv b18, .val (.long p1), .second, .val (.long p1), .second, .val (.long p1), .second, .val (.long (0 : Int64)), .second, .val (.long p1), .second, .val (.long p0), .second, .val (.long p1), .second] [])) _
    refine XS.aloadN X227.here hx rfl (hb hby d1_26) rfl rfl ?_
    show Steps p.tables e below (T227.setTop (mkF m 27 #[rv b18, .val (.long p1), .second, .val (.long p1), .second, .val (.long p1), .second, .val (.long (0 : Int64)), .second, .val (.long p1), .second, .val (.long p0), .second, .val (.long p1), .second] [(.ref b18)])) _
    refine XS.lload X227.here hx rfl (hb hby d1_27) rfl ?_
    exact kt
  obtain ⟨T238, h238, X238, e238, W238, st238⟩ := putF X227 hx hZ hown (host := "") (Or.inl (W 19 rfl)) Via.refl e227 F230 F229 (Or.inr ⟨(W 20 rfl), rfl, hnm⟩) (W 3 rfl) (ty := .long) (by decide) rfl rfl (g := (mkF m 29 #[rv b18, .val (.long p1), .second, .val (.long p1), .second, .val (.long p1), .second, .val (.long (0 : Int64)), .second, .val (.long p1), .second, .val (.long p0), .second, .val (.long p1), .second] [(.long p1), (.ref b18)])) rfl rfl (hb hby d1_29)
  have pre239 : ∀ t, Steps p.tables e below (T238.setTop (mkF m 32 #[rv b18, .val (.long p1), .second, .val (.long p1), .second, .val (.long p1), .second, .val (.long (0 : Int64)), .second, .val (.long p1), .second, .val (.long p0), .second, .val (.long p1), .second] [])) t → Steps p.tables e below (s₁.setTop (entryFrame m #[(.ref b18), (.long p1), (.long p1), (.long p1), (.long (0 : Int64)), (.long p1), (.long p0), (.long p1)] 15)) t := fun t kt => pre237 _ (st238 _ kt)
  have N238 := Fr.snoc X238 N227 g_b18
  have O238 := O227.wr W238 g_b18
  have K238 : Keep h0 h238 [b18] := K227.wr W238 (Or.inl (List.mem_of_getElem? (i := 0) rfl))
  have F240 := F229.wr W238
  have F241 := F231.other W238 (Or.inr (slot_ne (Or.inr (W 22 rfl)) (Or.inr (W 20 rfl)) (by decide) (t := .long) (t' := .long) (by decide) (by decide)))
  have F242 := F232.other W238 (Or.inr (slot_ne (Or.inr (W 24 rfl)) (Or.inr (W 20 rfl)) (by decide) (t := .long) (t' := .long) (by decide) (by decide)))
  have F243 := F233.other W238 (Or.inr (slot_ne (Or.inr (W 12 rfl)) (Or.inr (W 20 rfl)) (by decide) (t := .long) (t' := .long) (by decide) (by decide)))
  have F244 := F234.other W238 (Or.inr (slot_ne (Or.inr (W 14 rfl)) (Or.inr (W 20 rfl)) (by decide) (t := .long) (t' := .long) (by decide) (by decide)))
  have F245 := F235.other W238 (Or.inr (slot_ne (Or.inr (W 16 rfl)) (Or.inr (W 20 rfl)) (by decide) (t := .long) (t' := .long) (by decide) (by decide)))
  have F246 := F236.other W238 (Or.inr (slot_ne (Or.inr (W 18 rfl)) (Or.inr (W 20 rfl)) (by decide) (t := .long) (t' := .long) (by decide) (by decide)))
  have F247 : Fld Z h238 b18 "com/example/osier/osier/SecondFigures" "errors" "J" (.long p1) := F230.same W238
  have pre248 : ∀ t, Steps p.tables e below (T238.setTop (mkF m 35 #[rv b18, .val (.long p1), .second, .val (.long p1), .second, .val (.long p1), .second, .val (.long (0 : Int64)), .second, .val (.long p1), .second, .val (.long p0), .second, .val (.long p1), .second] [(.long p0), (.ref b18)])) t → Steps p.tables e below (s₁.setTop (entryFrame m #[(.ref b18), (.long p1), (.long p1), (.long p1), (.long (0 : Int64)), (.long p1), (.long p0), (.long p1)] 15)) t := fun t kt => by
    refine pre239 _ ?_
    show Steps p.tables e below (T238.setTop (mkF m 32 #[rv b18, .val (.long p1), .second, .val (.long p1), .second, .val (.long p1), .second, .val (.long (0 : Int64)), .second, .val (.long p1), .second, .val (.long p0), .second, .val (.long p1), .second] [])) _
    refine XS.aloadN X238.here hx rfl (hb hby d1_32) rfl rfl ?_
    show Steps p.tables e below (T238.setTop (mkF m 33 #[rv b18, .val (.long p1), .second, .val (.long p1), .second, .val (.long p1), .second, .val (.long (0 : Int64)), .second, .val (.long p1), .second, .val (.long p0), .second, .val (.long p1), .second] [(.ref b18)])) _
    refine XS.lload X238.here hx rfl (hb hby d1_33) rfl ?_
    exact kt
  obtain ⟨T249, h249, X249, e249, W249, st249⟩ := putF X238 hx hZ hown (host := "") (Or.inl (W 21 rfl)) Via.refl e238 F241 F240 (Or.inr ⟨(W 22 rfl), rfl, hnm⟩) (W 3 rfl) (ty := .long) (by decide) rfl rfl (g := (mkF m 35 #[rv b18, .val (.long p1), .second, .val (.long p1), .second, .val (.long p1), .second, .val (.long (0 : Int64)), .second, .val (.long p1), .second, .val (.long p0), .second, .val (.long p1), .second] [(.long p0), (.ref b18)])) rfl rfl (hb hby d1_35)
  have pre250 : ∀ t, Steps p.tables e below (T249.setTop (mkF m 38 #[rv b18, .val (.long p1), .second, .val (.long p1), .second, .val (.long p1), .second, .val (.long (0 : Int64)), .second, .val (.long p1), .second, .val (.long p0), .second, .val (.long p1), .second] [])) t → Steps p.tables e below (s₁.setTop (entryFrame m #[(.ref b18), (.long p1), (.long p1), (.long p1), (.long (0 : Int64)), (.long p1), (.long p0), (.long p1)] 15)) t := fun t kt => pre248 _ (st249 _ kt)
  have N249 := Fr.snoc X249 N238 g_b18
  have O249 := O238.wr W249 g_b18
  have K249 : Keep h0 h249 [b18] := K238.wr W249 (Or.inl (List.mem_of_getElem? (i := 0) rfl))
  have F251 := F240.wr W249
  have F252 := F242.other W249 (Or.inr (slot_ne (Or.inr (W 24 rfl)) (Or.inr (W 22 rfl)) (by decide) (t := .long) (t' := .long) (by decide) (by decide)))
  have F253 := F243.other W249 (Or.inr (slot_ne (Or.inr (W 12 rfl)) (Or.inr (W 22 rfl)) (by decide) (t := .long) (t' := .long) (by decide) (by decide)))
  have F254 := F244.other W249 (Or.inr (slot_ne (Or.inr (W 14 rfl)) (Or.inr (W 22 rfl)) (by decide) (t := .long) (t' := .long) (by decide) (by decide)))
  have F255 := F245.other W249 (Or.inr (slot_ne (Or.inr (W 16 rfl)) (Or.inr (W 22 rfl)) (by decide) (t := .long) (t' := .long) (by decide) (by decide)))
  have F256 := F246.other W249 (Or.inr (slot_ne (Or.inr (W 18 rfl)) (Or.inr (W 22 rfl)) (by decide) (t := .long) (t' := .long) (by decide) (by decide)))
  have F257 := F247.other W249 (Or.inr (slot_ne (Or.inr (W 20 rfl)) (Or.inr (W 22 rfl)) (by decide) (t := .long) (t' := .long) (by decide) (by decide)))
  have F258 : Fld Z h249 b18 "com/example/osier/osier/SecondFigures" "responseTimeMillis" "J" (.long p0) := F241.same W249
  have pre259 : ∀ t, Steps p.tables e below (T249.setTop (mkF m 41 #[rv b18, .val (.long p1), .second, .val (.long p1), .second, .val (.long p1), .second, .val (.long (0 : Int64)), .second, .val (.long p1), .second, .val (.long p0), .second, .val (.long p1), .second] [(.long p1), (.ref b18)])) t → Steps p.tables e below (s₁.setTop (entryFrame m #[(.ref b18), (.long p1), (.long p1), (.long p1), (.long (0 : Int64)), (.long p1), (.long p0), (.long p1)] 15)) t := fun t kt => by
    refine pre250 _ ?_
    show Steps p.tables e below (T249.setTop (mkF m 38 #[rv b18, .val (.long p1), .second, .val (.long p1), .second, .val (.long p1), .second, .val (.long (0 : Int64)), .second, .val (.long p1), .second, .val (.long p0), .second, .val (.long p1), .second] [])) _
    refine XS.aloadN X249.here hx rfl (hb hby d1_38) rfl rfl ?_
    show Steps p.tables e below (T249.setTop (mkF m 39 #[rv b18, .val (.long p1), .second, .val (.long p1), .second, .val (.long p1), .second, .val (.long (0 : Int64)), .second, .val (.long p1), .second, .val (.long p0), .second, .val (.long p1), .second] [(.ref b18)])) _
    refine XS.lload X249.here hx rfl (hb hby d1_39) rfl ?_
    exact kt
  obtain ⟨T260, h260, X260, e260, W260, st260⟩ := putF X249 hx hZ hown (host := "") (Or.inl (W 23 rfl)) Via.refl e249 F252 F251 (Or.inr ⟨(W 24 rfl), rfl, hnm⟩) (W 3 rfl) (ty := .long) (by decide) rfl rfl (g := (mkF m 41 #[rv b18, .val (.long p1), .second, .val (.long p1), .second, .val (.long p1), .second, .val (.long (0 : Int64)), .second, .val (.long p1), .second, .val (.long p0), .second, .val (.long p1), .second] [(.long p1), (.ref b18)])) rfl rfl (hb hby d1_41)
  have pre261 : ∀ t, Steps p.tables e below (T260.setTop (mkF m 44 #[rv b18, .val (.long p1), .second, .val (.long p1), .second, .val (.long p1), .second, .val (.long (0 : Int64)), .second, .val (.long p1), .second, .val (.long p0), .second, .val (.long p1), .second] [])) t → Steps p.tables e below (s₁.setTop (entryFrame m #[(.ref b18), (.long p1), (.long p1), (.long p1), (.long (0 : Int64)), (.long p1), (.long p0), (.long p1)] 15)) t := fun t kt => pre259 _ (st260 _ kt)
  have N260 := Fr.snoc X260 N249 g_b18
  have O260 := O249.wr W260 g_b18
  have K260 : Keep h0 h260 [b18] := K249.wr W260 (Or.inl (List.mem_of_getElem? (i := 0) rfl))
  have F262 := F251.wr W260
  have F263 := F253.other W260 (Or.inr (slot_ne (Or.inr (W 12 rfl)) (Or.inr (W 24 rfl)) (by decide) (t := .long) (t' := .long) (by decide) (by decide)))
  have F264 := F254.other W260 (Or.inr (slot_ne (Or.inr (W 14 rfl)) (Or.inr (W 24 rfl)) (by decide) (t := .long) (t' := .long) (by decide) (by decide)))
  have F265 := F255.other W260 (Or.inr (slot_ne (Or.inr (W 16 rfl)) (Or.inr (W 24 rfl)) (by decide) (t := .long) (t' := .long) (by decide) (by decide)))
  have F266 := F256.other W260 (Or.inr (slot_ne (Or.inr (W 18 rfl)) (Or.inr (W 24 rfl)) (by decide) (t := .long) (t' := .long) (by decide) (by decide)))
  have F267 := F257.other W260 (Or.inr (slot_ne (Or.inr (W 20 rfl)) (Or.inr (W 24 rfl)) (by decide) (t := .long) (t' := .long) (by decide) (by decide)))
  have F268 := F258.other W260 (Or.inr (slot_ne (Or.inr (W 22 rfl)) (Or.inr (W 24 rfl)) (by decide) (t := .long) (t' := .long) (by decide) (by decide)))
  have F269 : Fld Z h260 b18 "com/example/osier/osier/SecondFigures" "inside" "J" (.long p1) := F252.same W260
  obtain ⟨fs, hr, hrun, hended, hW, hsame⟩ := X260.leave (v := none) (fun _ => rfl)
  refine ⟨_, _, pre261 _ (X260.returnOut hx Bd.returns (hb hby d1_44) hr), hrun, hended, _, _, rfl, ?_, ⟨_, rfl⟩, hW, hsame.mono (by decide) (by decide)⟩
  show Q_init1_0 Z b18 p1 p0 h0 n0 _ T260.heap _
  rw [e260]
  exact ⟨rfl, N260, K260, O260, F262, F263, F264, F265, F266, F267, F268, F269⟩
theorem pd_5 : parseMethodDescriptor "(JJJJJJJ)V" = some ⟨[.long, .long, .long, .long, .long, .long, .long], none⟩ := by decide +kernel
theorem pd_6 : parseMethodDescriptor "()D" = some ⟨[], some .double⟩ := by decide +kernel
def Q_init1_1 (Z : State) (b276 : Addr) (p1 : Int64) (p0 : Int64) (h0 : Heap) (n0 : Nat) (v : Option Value) (h : Heap) (L : List Loc) : Prop := v = none ∧ Fr n0 L ∧ Keep h0 h [b276] ∧ Old Z n0 h ∧ Exa Z h b276 "com/example/osier/osier/SecondFigures" ∧ Fld Z h b276 "com/example/osier/osier/SecondFigures" "startMillis" "J" (.long p1) ∧ Fld Z h b276 "com/example/osier/osier/SecondFigures" "admitted" "J" (.long p1) ∧ Fld Z h b276 "com/example/osier/osier/SecondFigures" "refused" "J" (.long p1) ∧ Fld Z h b276 "com/example/osier/osier/SecondFigures" "completed" "J" (.long (1 : Int64)) ∧ Fld Z h b276 "com/example/osier/osier/SecondFigures" "errors" "J" (.long p1) ∧ Fld Z h b276 "com/example/osier/osier/SecondFigures" "responseTimeMillis" "J" (.long p0) ∧ Fld Z h b276 "com/example/osier/osier/SecondFigures" "inside" "J" (.long p1)
set_option maxRecDepth 65536 in
set_option maxHeartbeats 40000000 in
theorem rm_init1_1 (l : Launch) (Z : State) (a0 : Array Value) (hw : ∀ d ∈ tables_1, d.before a0 Z = true) (ws : List Jvm.Cond) (b276 : Addr) (p1 : Int64) (p0 : Int64) (h0 : Heap) (n0 : Nat) (O0 : Old Z n0 h0) (g_b276 : n0 ≤ b276) (Fi0 : Exa Z h0 b276 "com/example/osier/osier/SecondFigures") (Fi1 : Fld Z h0 b276 "com/example/osier/osier/SecondFigures" "startMillis" "J" (.long (0 : Int64))) (Fi2 : Fld Z h0 b276 "com/example/osier/osier/SecondFigures" "admitted" "J" (.long (0 : Int64))) (Fi3 : Fld Z h0 b276 "com/example/osier/osier/SecondFigures" "refused" "J" (.long (0 : Int64))) (Fi4 : Fld Z h0 b276 "com/example/osier/osier/SecondFigures" "completed" "J" (.long (0 : Int64))) (Fi5 : Fld Z h0 b276 "com/example/osier/osier/SecondFigures" "errors" "J" (.long (0 : Int64))) (Fi6 : Fld Z h0 b276 "com/example/osier/osier/SecondFigures" "responseTimeMillis" "J" (.long (0 : Int64))) (Fi7 : Fld Z h0 b276 "com/example/osier/osier/SecondFigures" "inside" "J" (.long (0 : Int64))) :
    MetFree l (⟨"com/example/osier/osier/SecondFigures", "<init>", "(JJJJJJJ)V"⟩ : MethodName) (head1 (Jvm.Cond.code (⟨"com/example/osier/osier/SecondFigures", "<init>", "(JJJJJJJ)V"⟩ : MethodName) prog_70_method_1_code 15 none :: ws) ({ frames := 1, cells := 0, slots := 0, locals := 12 } : Room)) (fun a U => a = #[(.ref b276), (.long p1), (.long p1), (.long p1), (.long (1 : Int64)), (.long p1), (.long p0), (.long p1)] ∧ Z.Warmed39 U.vm ∧ U.heap = h0) (fun _ _ _ _ _ => True) (fun _ U o U' => ∃ v L, o = .returned v ∧ Q_init1_1 Z b276 p1 p0 h0 n0 v U'.heap L ∧ FrameEnd U o U' L ({ frames := 1, cells := 0, slots := 0, locals := 12 } : Room).cells ({ frames := 1, cells := 0, slots := 0, locals := 12 } : Room).slots) := by
  refine MetFree.of_bodySF (plainFor_of_name pn_0) hisR ?_
  intro p e s m args below meth c s₁ Bd hml0 hP hK
  have W := fun {d : Jvm.Cond} (i : Nat) (q : tables_1[i]? = some d) => hw d (List.mem_of_getElem? q)
  obtain ⟨rfl, hZ, hh⟩ := hP
  have hx := Bd.exec
  have hby := Bd.bytes
  have hml : c.maxLocals = 15 := hml0
  have hown : s.vm.findClass "com/example/osier/osier/SecondFigures" = some m.cls := findClass_of_methodNamed Bd.named
  have hnm := (name_of_methodNamed Bd.named Bd.method).1
  have X0 : Stand p l e ({ frames := 1, cells := 0, slots := 0, locals := 12 } : Room) s m #[(.ref b276), (.long p1), (.long p1), (.long p1), (.long (1 : Int64)), (.long p1), (.long p0), (.long p1)] below meth c s₁ [] 0 0 := Stand.of_body Bd
  have e0 : s₁.heap = h0 := by rw [← hh, Bd.state]; rfl
  have N0 := Fr.nil n0
  have pre0 : ∀ t, Steps p.tables e below (s₁.setTop (mkF m 0 #[rv b276, .val (.long p1), .second, .val (.long p1), .second, .val (.long p1), .second, .val (.long (1 : Int64)), .second, .val (.long p1), .second, .val (.long p0), .second, .val (.long p1), .second] [])) t → Steps p.tables e below (s₁.setTop (entryFrame m #[(.ref b276), (.long p1), (.long p1), (.long p1), (.long (1 : Int64)), (.long p1), (.long p0), (.long p1)] 15)) t := fun t k => castTop (ef_4 m b276 p1 p1 p1 (1 : Int64) p1 p0 p1) k
  have K0 : Keep h0 h0 [b276] := Keep.refl h0 [b276]
  have pre448 : ∀ t, Steps p.tables e below (s₁.setTop (mkF m 1 #[rv b276, .val (.long p1), .second, .val (.long p1), .second, .val (.long p1), .second, .val (.long (1 : Int64)), .second, .val (.long p1), .second, .val (.long p0), .second, .val (.long p1), .second] [(.ref b276)])) t → Steps p.tables e below (s₁.setTop (entryFrame m #[(.ref b276), (.long p1), (.long p1), (.long p1), (.long (1 : Int64)), (.long p1), (.long p0), (.long p1)] 15)) t := fun t kt => by
    refine pre0 _ ?_
    show Steps p.tables e below (s₁.setTop (mkF m 0 #[rv b276, .val (.long p1), .second, .val (.long p1), .second, .val (.long p1), .second, .val (.long (1 : Int64)), .second, .val (.long p1), .second, .val (.long p0), .second, .val (.long p1), .second] [])) _
    refine XS.aloadN X0.here hx rfl (hb hby d1_0) rfl rfl ?_
    exact kt
  obtain ⟨T449, X449, e449, st449⟩ := initO X0 hx hZ hown (W 8 rfl) (W 9 rfl) (W 10 rfl) e0 (g := (mkF m 1 #[rv b276, .val (.long p1), .second, .val (.long p1), .second, .val (.long p1), .second, .val (.long (1 : Int64)), .second, .val (.long p1), .second, .val (.long p0), .second, .val (.long p1), .second] [(.ref b276)])) rfl (by rw [hml]; rfl) rfl (hb hby d1_1) (by decide) (W := 0) (by show 2 * 0 + _ ≤ _; exact Nat.le_of_eq rfl) (by decide)
  have pre450 : ∀ t, Steps p.tables e below (T449.setTop (mkF m 4 #[rv b276, .val (.long p1), .second, .val (.long p1), .second, .val (.long p1), .second, .val (.long (1 : Int64)), .second, .val (.long p1), .second, .val (.long p0), .second, .val (.long p1), .second] [])) t → Steps p.tables e below (s₁.setTop (entryFrame m #[(.ref b276), (.long p1), (.long p1), (.long p1), (.long (1 : Int64)), (.long p1), (.long p0), (.long p1)] 15)) t := fun t kt => pre448 _ (st449 _ kt)
  have pre451 : ∀ t, Steps p.tables e below (T449.setTop (mkF m 6 #[rv b276, .val (.long p1), .second, .val (.long p1), .second, .val (.long p1), .second, .val (.long (1 : Int64)), .second, .val (.long p1), .second, .val (.long p0), .second, .val (.long p1), .second] [(.long p1), (.ref b276)])) t → Steps p.tables e below (s₁.setTop (entryFrame m #[(.ref b276), (.long p1), (.long p1), (.long p1), (.long (1 : Int64)), (.long p1), (.long p0), (.long p1)] 15)) t := fun t kt => by
    refine pre450 _ ?_
    show Steps p.tables e below (T449.setTop (mkF m 4 #[rv b276, .val (.long p1), .second, .val (.long p1), .second, .val (.long p1), .second, .val (.long (1 : Int64)), .second, .val (.long p1), .second, .val (.long p0), .second, .val (.long p1), .second] [])) _
    refine XS.aloadN X449.here hx rfl (hb hby d1_4) rfl rfl ?_
    show Steps p.tables e below (T449.setTop (mkF m 5 #[rv b276, .val (.long p1), .second, .val (.long p1), .second, .val (.long p1), .second, .val (.long (1 : Int64)), .second, .val (.long p1), .second, .val (.long p0), .second, .val (.long p1), .second] [(.ref b276)])) _
    refine XS.lloadN X449.here hx rfl (hb hby d1_5) rfl ?_
    exact kt
  obtain ⟨T452, h452, X452, e452, W452, st452⟩ := putF X449 hx hZ hown (host := "") (Or.inl (W 11 rfl)) Via.refl e449 Fi1 Fi0 (Or.inr ⟨(W 12 rfl), rfl, hnm⟩) (W 3 rfl) (ty := .long) (by decide) rfl rfl (g := (mkF m 6 #[rv b276, .val (.long p1), .second, .val (.long p1), .second, .val (.long p1), .second, .val (.long (1 : Int64)), .second, .val (.long p1), .second, .val (.long p0), .second, .val (.long p1), .second] [(.long p1), (.ref b276)])) rfl rfl (hb hby d1_6)
  have pre453 : ∀ t, Steps p.tables e below (T452.setTop (mkF m 9 #[rv b276, .val (.long p1), .second, .val (.long p1), .second, .val (.long p1), .second, .val (.long (1 : Int64)), .second, .val (.long p1), .second, .val (.long p0), .second, .val (.long p1), .second] [])) t → Steps p.tables e below (s₁.setTop (entryFrame m #[(.ref b276), (.long p1), (.long p1), (.long p1), (.long (1 : Int64)), (.long p1), (.long p0), (.long p1)] 15)) t := fun t kt => pre451 _ (st452 _ kt)
  have N452 := Fr.snoc X452 N0 g_b276
  have O452 := O0.wr W452 g_b276
  have K452 : Keep h0 h452 [b276] := K0.wr W452 (Or.inl (List.mem_of_getElem? (i := 0) rfl))
  have F454 := Fi0.wr W452
  have F455 := Fi2.other W452 (Or.inr (slot_ne (Or.inr (W 14 rfl)) (Or.inr (W 12 rfl)) (by decide) (t := .long) (t' := .long) (by decide) (by decide)))
  have F456 := Fi3.other W452 (Or.inr (slot_ne (Or.inr (W 16 rfl)) (Or.inr (W 12 rfl)) (by decide) (t := .long) (t' := .long) (by decide) (by decide)))
  have F457 := Fi4.other W452 (Or.inr (slot_ne (Or.inr (W 18 rfl)) (Or.inr (W 12 rfl)) (by decide) (t := .long) (t' := .long) (by decide) (by decide)))
  have F458 := Fi5.other W452 (Or.inr (slot_ne (Or.inr (W 20 rfl)) (Or.inr (W 12 rfl)) (by decide) (t := .long) (t' := .long) (by decide) (by decide)))
  have F459 := Fi6.other W452 (Or.inr (slot_ne (Or.inr (W 22 rfl)) (Or.inr (W 12 rfl)) (by decide) (t := .long) (t' := .long) (by decide) (by decide)))
  have F460 := Fi7.other W452 (Or.inr (slot_ne (Or.inr (W 24 rfl)) (Or.inr (W 12 rfl)) (by decide) (t := .long) (t' := .long) (by decide) (by decide)))
  have F461 : Fld Z h452 b276 "com/example/osier/osier/SecondFigures" "startMillis" "J" (.long p1) := Fi1.same W452
  have pre462 : ∀ t, Steps p.tables e below (T452.setTop (mkF m 11 #[rv b276, .val (.long p1), .second, .val (.long p1), .second, .val (.long p1), .second, .val (.long (1 : Int64)), .second, .val (.long p1), .second, .val (.long p0), .second, .val (.long p1), .second] [(.long p1), (.ref b276)])) t → Steps p.tables e below (s₁.setTop (entryFrame m #[(.ref b276), (.long p1), (.long p1), (.long p1), (.long (1 : Int64)), (.long p1), (.long p0), (.long p1)] 15)) t := fun t kt => by
    refine pre453 _ ?_
    show Steps p.tables e below (T452.setTop (mkF m 9 #[rv b276, .val (.long p1), .second, .val (.long p1), .second, .val (.long p1), .second, .val (.long (1 : Int64)), .second, .val (.long p1), .second, .val (.long p0), .second, .val (.long p1), .second] [])) _
    refine XS.aloadN X452.here hx rfl (hb hby d1_9) rfl rfl ?_
    show Steps p.tables e below (T452.setTop (mkF m 10 #[rv b276, .val (.long p1), .second, .val (.long p1), .second, .val (.long p1), .second, .val (.long (1 : Int64)), .second, .val (.long p1), .second, .val (.long p0), .second, .val (.long p1), .second] [(.ref b276)])) _
    refine XS.lloadN X452.here hx rfl (hb hby d1_10) rfl ?_
    exact kt
  obtain ⟨T463, h463, X463, e463, W463, st463⟩ := putF X452 hx hZ hown (host := "") (Or.inl (W 13 rfl)) Via.refl e452 F455 F454 (Or.inr ⟨(W 14 rfl), rfl, hnm⟩) (W 3 rfl) (ty := .long) (by decide) rfl rfl (g := (mkF m 11 #[rv b276, .val (.long p1), .second, .val (.long p1), .second, .val (.long p1), .second, .val (.long (1 : Int64)), .second, .val (.long p1), .second, .val (.long p0), .second, .val (.long p1), .second] [(.long p1), (.ref b276)])) rfl rfl (hb hby d1_11)
  have pre464 : ∀ t, Steps p.tables e below (T463.setTop (mkF m 14 #[rv b276, .val (.long p1), .second, .val (.long p1), .second, .val (.long p1), .second, .val (.long (1 : Int64)), .second, .val (.long p1), .second, .val (.long p0), .second, .val (.long p1), .second] [])) t → Steps p.tables e below (s₁.setTop (entryFrame m #[(.ref b276), (.long p1), (.long p1), (.long p1), (.long (1 : Int64)), (.long p1), (.long p0), (.long p1)] 15)) t := fun t kt => pre462 _ (st463 _ kt)
  have N463 := Fr.snoc X463 N452 g_b276
  have O463 := O452.wr W463 g_b276
  have K463 : Keep h0 h463 [b276] := K452.wr W463 (Or.inl (List.mem_of_getElem? (i := 0) rfl))
  have F465 := F454.wr W463
  have F466 := F456.other W463 (Or.inr (slot_ne (Or.inr (W 16 rfl)) (Or.inr (W 14 rfl)) (by decide) (t := .long) (t' := .long) (by decide) (by decide)))
  have F467 := F457.other W463 (Or.inr (slot_ne (Or.inr (W 18 rfl)) (Or.inr (W 14 rfl)) (by decide) (t := .long) (t' := .long) (by decide) (by decide)))
  have F468 := F458.other W463 (Or.inr (slot_ne (Or.inr (W 20 rfl)) (Or.inr (W 14 rfl)) (by decide) (t := .long) (t' := .long) (by decide) (by decide)))
  have F469 := F459.other W463 (Or.inr (slot_ne (Or.inr (W 22 rfl)) (Or.inr (W 14 rfl)) (by decide) (t := .long) (t' := .long) (by decide) (by decide)))
  have F470 := F460.other W463 (Or.inr (slot_ne (Or.inr (W 24 rfl)) (Or.inr (W 14 rfl)) (by decide) (t := .long) (t' := .long) (by decide) (by decide)))
  have F471 := F461.other W463 (Or.inr (slot_ne (Or.inr (W 12 rfl)) (Or.inr (W 14 rfl)) (by decide) (t := .long) (t' := .long) (by decide) (by decide)))
  have F472 : Fld Z h463 b276 "com/example/osier/osier/SecondFigures" "admitted" "J" (.long p1) := F455.same W463
  have pre473 : ∀ t, Steps p.tables e below (T463.setTop (mkF m 17 #[rv b276, .val (.long p1), .second, .val (.long p1), .second, .val (.long p1), .second, .val (.long (1 : Int64)), .second, .val (.long p1), .second, .val (.long p0), .second, .val (.long p1), .second] [(.long p1), (.ref b276)])) t → Steps p.tables e below (s₁.setTop (entryFrame m #[(.ref b276), (.long p1), (.long p1), (.long p1), (.long (1 : Int64)), (.long p1), (.long p0), (.long p1)] 15)) t := fun t kt => by
    refine pre464 _ ?_
    show Steps p.tables e below (T463.setTop (mkF m 14 #[rv b276, .val (.long p1), .second, .val (.long p1), .second, .val (.long p1), .second, .val (.long (1 : Int64)), .second, .val (.long p1), .second, .val (.long p0), .second, .val (.long p1), .second] [])) _
    refine XS.aloadN X463.here hx rfl (hb hby d1_14) rfl rfl ?_
    show Steps p.tables e below (T463.setTop (mkF m 15 #[rv b276, .val (.long p1), .second, .val (.long p1), .second, .val (.long p1), .second, .val (.long (1 : Int64)), .second, .val (.long p1), .second, .val (.long p0), .second, .val (.long p1), .second] [(.ref b276)])) _
    refine XS.lload X463.here hx rfl (hb hby d1_15) rfl ?_
    exact kt
  obtain ⟨T474, h474, X474, e474, W474, st474⟩ := putF X463 hx hZ hown (host := "") (Or.inl (W 15 rfl)) Via.refl e463 F466 F465 (Or.inr ⟨(W 16 rfl), rfl, hnm⟩) (W 3 rfl) (ty := .long) (by decide) rfl rfl (g := (mkF m 17 #[rv b276, .val (.long p1), .second, .val (.long p1), .second, .val (.long p1), .second, .val (.long (1 : Int64)), .second, .val (.long p1), .second, .val (.long p0), .second, .val (.long p1), .second] [(.long p1), (.ref b276)])) rfl rfl (hb hby d1_17)
  have pre475 : ∀ t, Steps p.tables e below (T474.setTop (mkF m 20 #[rv b276, .val (.long p1), .second, .val (.long p1), .second, .val (.long p1), .second, .val (.long (1 : Int64)), .second, .val (.long p1), .second, .val (.long p0), .second, .val (.long p1), .second] [])) t → Steps p.tables e below (s₁.setTop (entryFrame m #[(.ref b276), (.long p1), (.long p1), (.long p1), (.long (1 : Int64)), (.long p1), (.long p0), (.long p1)] 15)) t := fun t kt => pre473 _ (st474 _ kt)
  have N474 := Fr.snoc X474 N463 g_b276
  have O474 := O463.wr W474 g_b276
  have K474 : Keep h0 h474 [b276] := K463.wr W474 (Or.inl (List.mem_of_getElem? (i := 0) rfl))
  have F476 := F465.wr W474
  have F477 := F467.other W474 (Or.inr (slot_ne (Or.inr (W 18 rfl)) (Or.inr (W 16 rfl)) (by decide) (t := .long) (t' := .long) (by decide) (by decide)))
  have F478 := F468.other W474 (Or.inr (slot_ne (Or.inr (W 20 rfl)) (Or.inr (W 16 rfl)) (by decide) (t := .long) (t' := .long) (by decide) (by decide)))
  have F479 := F469.other W474 (Or.inr (slot_ne (Or.inr (W 22 rfl)) (Or.inr (W 16 rfl)) (by decide) (t := .long) (t' := .long) (by decide) (by decide)))
  have F480 := F470.other W474 (Or.inr (slot_ne (Or.inr (W 24 rfl)) (Or.inr (W 16 rfl)) (by decide) (t := .long) (t' := .long) (by decide) (by decide)))
  have F481 := F471.other W474 (Or.inr (slot_ne (Or.inr (W 12 rfl)) (Or.inr (W 16 rfl)) (by decide) (t := .long) (t' := .long) (by decide) (by decide)))
  have F482 := F472.other W474 (Or.inr (slot_ne (Or.inr (W 14 rfl)) (Or.inr (W 16 rfl)) (by decide) (t := .long) (t' := .long) (by decide) (by decide)))
  have F483 : Fld Z h474 b276 "com/example/osier/osier/SecondFigures" "refused" "J" (.long p1) := F466.same W474
  have pre484 : ∀ t, Steps p.tables e below (T474.setTop (mkF m 23 #[rv b276, .val (.long p1), .second, .val (.long p1), .second, .val (.long p1), .second, .val (.long (1 : Int64)), .second, .val (.long p1), .second, .val (.long p0), .second, .val (.long p1), .second] [(.long (1 : Int64)), (.ref b276)])) t → Steps p.tables e below (s₁.setTop (entryFrame m #[(.ref b276), (.long p1), (.long p1), (.long p1), (.long (1 : Int64)), (.long p1), (.long p0), (.long p1)] 15)) t := fun t kt => by
    refine pre475 _ ?_
    show Steps p.tables e below (T474.setTop (mkF m 20 #[rv b276, .val (.long p1), .second, .val (.long p1), .second, .val (.long p1), .second, .val (.long (1 : Int64)), .second, .val (.long p1), .second, .val (.long p0), .second, .val (.long p1), .second] [])) _
    refine XS.aloadN X474.here hx rfl (hb hby d1_20) rfl rfl ?_
    show Steps p.tables e below (T474.setTop (mkF m 21 #[rv b276, .val (.long p1), .second, .val (.long p1), .second, .val (.long p1), .second, .val (.long (1 : Int64)), .second, .val (.long p1), .second, .val (.long p0), .second, .val (.long p1), .second] [(.ref b276)])) _
    refine XS.lload X474.here hx rfl (hb hby d1_21) rfl ?_
    exact kt
  obtain ⟨T485, h485, X485, e485, W485, st485⟩ := putF X474 hx hZ hown (host := "") (Or.inl (W 17 rfl)) Via.refl e474 F477 F476 (Or.inr ⟨(W 18 rfl), rfl, hnm⟩) (W 3 rfl) (ty := .long) (by decide) rfl rfl (g := (mkF m 23 #[rv b276, .val (.long p1), .second, .val (.long p1), .second, .val (.long p1), .second, .val (.long (1 : Int64)), .second, .val (.long p1), .second, .val (.long p0), .second, .val (.long p1), .second] [(.long (1 : Int64)), (.ref b276)])) rfl rfl (hb hby d1_23)
  have pre486 : ∀ t, Steps p.tables e below (T485.setTop (mkF m 26 #[rv b276, .val (.long p1), .second, .val (.long p1), .second, .val (.long p1), .second, .val (.long (1 : Int64)), .second, .val (.long p1), .second, .val (.long p0), .second, .val (.long p1), .second] [])) t → Steps p.tables e below (s₁.setTop (entryFrame m #[(.ref b276), (.long p1), (.long p1), (.long p1), (.long (1 : Int64)), (.long p1), (.long p0), (.long p1)] 15)) t := fun t kt => pre484 _ (st485 _ kt)
  have N485 := Fr.snoc X485 N474 g_b276
  have O485 := O474.wr W485 g_b276
  have K485 : Keep h0 h485 [b276] := K474.wr W485 (Or.inl (List.mem_of_getElem? (i := 0) rfl))
  have F487 := F476.wr W485
  have F488 := F478.other W485 (Or.inr (slot_ne (Or.inr (W 20 rfl)) (Or.inr (W 18 rfl)) (by decide) (t := .long) (t' := .long) (by decide) (by decide)))
  have F489 := F479.other W485 (Or.inr (slot_ne (Or.inr (W 22 rfl)) (Or.inr (W 18 rfl)) (by decide) (t := .long) (t' := .long) (by decide) (by decide)))
  have F490 := F480.other W485 (Or.inr (slot_ne (Or.inr (W 24 rfl)) (Or.inr (W 18 rfl)) (by decide) (t := .long) (t' := .long) (by decide) (by decide)))
  have F491 := F481.other W485 (Or.inr (slot_ne (Or.inr (W 12 rfl)) (Or.inr (W 18 rfl)) (by decide) (t := .long) (t' := .long) (by decide) (by decide)))
  have F492 := F482.other W485 (Or.inr (slot_ne (Or.inr (W 14 rfl)) (Or.inr (W 18 rfl)) (by decide) (t := .long) (t' := .long) (by decide) (by decide)))
  have F493 := F483.other W485 (Or.inr (slot_ne (Or.inr (W 16 rfl)) (Or.inr (W 18 rfl)) (by decide) (t := .long) (t' := .long) (by decide) (by decide)))
  have F494 : Fld Z h485 b276 "com/example/osier/osier/SecondFigures" "completed" "J" (.long (1 : Int64)) := F477.same W485
  have pre495 : ∀ t, Steps p.tables e below (T485.setTop (mkF m 29 #[rv b276, .val (.long p1), .second, .val (.long p1), .second, .val (.long p1), .second, .val (.long (1 : Int64)), .second, .val (.long p1), .second, .val (.long p0), .second, .val (.long p1), .second] [(.long p1), (.ref b276)])) t → Steps p.tables e below (s₁.setTop (entryFrame m #[(.ref b276), (.long p1), (.long p1), (.long p1), (.long (1 : Int64)), (.long p1), (.long p0), (.long p1)] 15)) t := fun t kt => by
    refine pre486 _ ?_
    show Steps p.tables e below (T485.setTop (mkF m 26 #[rv b276, .val (.long p1), .second, .val (.long p1), .second, .val (.long p1), .second, .val (.long (1 : Int64)), .second, .val (.long p1), .second, .val (.long p0), .second, .val (.long p1), .second] [])) _
    refine XS.aloadN X485.here hx rfl (hb hby d1_26) rfl rfl ?_
    show Steps p.tables e below (T485.setTop (mkF m 27 #[rv b276, .val (.long p1), .second, .val (.long p1), .second, .val (.long p1), .second, .val (.long (1 : Int64)), .second, .val (.long p1), .second, .val (.long p0), .second, .val (.long p1), .second] [(.ref b276)])) _
    refine XS.lload X485.here hx rfl (hb hby d1_27) rfl ?_
    exact kt
  obtain ⟨T496, h496, X496, e496, W496, st496⟩ := putF X485 hx hZ hown (host := "") (Or.inl (W 19 rfl)) Via.refl e485 F488 F487 (Or.inr ⟨(W 20 rfl), rfl, hnm⟩) (W 3 rfl) (ty := .long) (by decide) rfl rfl (g := (mkF m 29 #[rv b276, .val (.long p1), .second, .val (.long p1), .second, .val (.long p1), .second, .val (.long (1 : Int64)), .second, .val (.long p1), .second, .val (.long p0), .second, .val (.long p1), .second] [(.long p1), (.ref b276)])) rfl rfl (hb hby d1_29)
  have pre497 : ∀ t, Steps p.tables e below (T496.setTop (mkF m 32 #[rv b276, .val (.long p1), .second, .val (.long p1), .second, .val (.long p1), .second, .val (.long (1 : Int64)), .second, .val (.long p1), .second, .val (.long p0), .second, .val (.long p1), .second] [])) t → Steps p.tables e below (s₁.setTop (entryFrame m #[(.ref b276), (.long p1), (.long p1), (.long p1), (.long (1 : Int64)), (.long p1), (.long p0), (.long p1)] 15)) t := fun t kt => pre495 _ (st496 _ kt)
  have N496 := Fr.snoc X496 N485 g_b276
  have O496 := O485.wr W496 g_b276
  have K496 : Keep h0 h496 [b276] := K485.wr W496 (Or.inl (List.mem_of_getElem? (i := 0) rfl))
  have F498 := F487.wr W496
  have F499 := F489.other W496 (Or.inr (slot_ne (Or.inr (W 22 rfl)) (Or.inr (W 20 rfl)) (by decide) (t := .long) (t' := .long) (by decide) (by decide)))
  have F500 := F490.other W496 (Or.inr (slot_ne (Or.inr (W 24 rfl)) (Or.inr (W 20 rfl)) (by decide) (t := .long) (t' := .long) (by decide) (by decide)))
  have F501 := F491.other W496 (Or.inr (slot_ne (Or.inr (W 12 rfl)) (Or.inr (W 20 rfl)) (by decide) (t := .long) (t' := .long) (by decide) (by decide)))
  have F502 := F492.other W496 (Or.inr (slot_ne (Or.inr (W 14 rfl)) (Or.inr (W 20 rfl)) (by decide) (t := .long) (t' := .long) (by decide) (by decide)))
  have F503 := F493.other W496 (Or.inr (slot_ne (Or.inr (W 16 rfl)) (Or.inr (W 20 rfl)) (by decide) (t := .long) (t' := .long) (by decide) (by decide)))
  have F504 := F494.other W496 (Or.inr (slot_ne (Or.inr (W 18 rfl)) (Or.inr (W 20 rfl)) (by decide) (t := .long) (t' := .long) (by decide) (by decide)))
  have F505 : Fld Z h496 b276 "com/example/osier/osier/SecondFigures" "errors" "J" (.long p1) := F488.same W496
  have pre506 : ∀ t, Steps p.tables e below (T496.setTop (mkF m 35 #[rv b276, .val (.long p1), .second, .val (.long p1), .second, .val (.long p1), .second, .val (.long (1 : Int64)), .second, .val (.long p1), .second, .val (.long p0), .second, .val (.long p1), .second] [(.long p0), (.ref b276)])) t → Steps p.tables e below (s₁.setTop (entryFrame m #[(.ref b276), (.long p1), (.long p1), (.long p1), (.long (1 : Int64)), (.long p1), (.long p0), (.long p1)] 15)) t := fun t kt => by
    refine pre497 _ ?_
    show Steps p.tables e below (T496.setTop (mkF m 32 #[rv b276, .val (.long p1), .second, .val (.long p1), .second, .val (.long p1), .second, .val (.long (1 : Int64)), .second, .val (.long p1), .second, .val (.long p0), .second, .val (.long p1), .second] [])) _
    refine XS.aloadN X496.here hx rfl (hb hby d1_32) rfl rfl ?_
    show Steps p.tables e below (T496.setTop (mkF m 33 #[rv b276, .val (.long p1), .second, .val (.long p1), .second, .val (.long p1), .second, .val (.long (1 : Int64)), .second, .val (.long p1), .second, .val (.long p0), .second, .val (.long p1), .second] [(.ref b276)])) _
    refine XS.lload X496.here hx rfl (hb hby d1_33) rfl ?_
    exact kt
  obtain ⟨T507, h507, X507, e507, W507, st507⟩ := putF X496 hx hZ hown (host := "") (Or.inl (W 21 rfl)) Via.refl e496 F499 F498 (Or.inr ⟨(W 22 rfl), rfl, hnm⟩) (W 3 rfl) (ty := .long) (by decide) rfl rfl (g := (mkF m 35 #[rv b276, .val (.long p1), .second, .val (.long p1), .second, .val (.long p1), .second, .val (.long (1 : Int64)), .second, .val (.long p1), .second, .val (.long p0), .second, .val (.long p1), .second] [(.long p0), (.ref b276)])) rfl rfl (hb hby d1_35)
  have pre508 : ∀ t, Steps p.tables e below (T507.setTop (mkF m 38 #[rv b276, .val (.long p1), .second, .val (.long p1), .second, .val (.long p1), .second, .val (.long (1 : Int64)), .second, .val (.long p1), .second, .val (.long p0), .second, .val (.long p1), .second] [])) t → Steps p.tables e below (s₁.setTop (entryFrame m #[(.ref b276), (.long p1), (.long p1), (.long p1), (.long (1 : Int64)), (.long p1), (.long p0), (.long p1)] 15)) t := fun t kt => pre506 _ (st507 _ kt)
  have N507 := Fr.snoc X507 N496 g_b276
  have O507 := O496.wr W507 g_b276
  have K507 : Keep h0 h507 [b276] := K496.wr W507 (Or.inl (List.mem_of_getElem? (i := 0) rfl))
  have F509 := F498.wr W507
  have F510 := F500.other W507 (Or.inr (slot_ne (Or.inr (W 24 rfl)) (Or.inr (W 22 rfl)) (by decide) (t := .long) (t' := .long) (by decide) (by decide)))
  have F511 := F501.other W507 (Or.inr (slot_ne (Or.inr (W 12 rfl)) (Or.inr (W 22 rfl)) (by decide) (t := .long) (t' := .long) (by decide) (by decide)))
  have F512 := F502.other W507 (Or.inr (slot_ne (Or.inr (W 14 rfl)) (Or.inr (W 22 rfl)) (by decide) (t := .long) (t' := .long) (by decide) (by decide)))
  have F513 := F503.other W507 (Or.inr (slot_ne (Or.inr (W 16 rfl)) (Or.inr (W 22 rfl)) (by decide) (t := .long) (t' := .long) (by decide) (by decide)))
  have F514 := F504.other W507 (Or.inr (slot_ne (Or.inr (W 18 rfl)) (Or.inr (W 22 rfl)) (by decide) (t := .long) (t' := .long) (by decide) (by decide)))
  have F515 := F505.other W507 (Or.inr (slot_ne (Or.inr (W 20 rfl)) (Or.inr (W 22 rfl)) (by decide) (t := .long) (t' := .long) (by decide) (by decide)))
  have F516 : Fld Z h507 b276 "com/example/osier/osier/SecondFigures" "responseTimeMillis" "J" (.long p0) := F499.same W507
  have pre517 : ∀ t, Steps p.tables e below (T507.setTop (mkF m 41 #[rv b276, .val (.long p1), .second, .val (.long p1), .second, .val (.long p1), .second, .val (.long (1 : Int64)), .second, .val (.long p1), .second, .val (.long p0), .second, .val (.long p1), .second] [(.long p1), (.ref b276)])) t → Steps p.tables e below (s₁.setTop (entryFrame m #[(.ref b276), (.long p1), (.long p1), (.long p1), (.long (1 : Int64)), (.long p1), (.long p0), (.long p1)] 15)) t := fun t kt => by
    refine pre508 _ ?_
    show Steps p.tables e below (T507.setTop (mkF m 38 #[rv b276, .val (.long p1), .second, .val (.long p1), .second, .val (.long p1), .second, .val (.long (1 : Int64)), .second, .val (.long p1), .second, .val (.long p0), .second, .val (.long p1), .second] [])) _
    refine XS.aloadN X507.here hx rfl (hb hby d1_38) rfl rfl ?_
    show Steps p.tables e below (T507.setTop (mkF m 39 #[rv b276, .val (.long p1), .second, .val (.long p1), .second, .val (.long p1), .second, .val (.long (1 : Int64)), .second, .val (.long p1), .second, .val (.long p0), .second, .val (.long p1), .second] [(.ref b276)])) _
    refine XS.lload X507.here hx rfl (hb hby d1_39) rfl ?_
    exact kt
  obtain ⟨T518, h518, X518, e518, W518, st518⟩ := putF X507 hx hZ hown (host := "") (Or.inl (W 23 rfl)) Via.refl e507 F510 F509 (Or.inr ⟨(W 24 rfl), rfl, hnm⟩) (W 3 rfl) (ty := .long) (by decide) rfl rfl (g := (mkF m 41 #[rv b276, .val (.long p1), .second, .val (.long p1), .second, .val (.long p1), .second, .val (.long (1 : Int64)), .second, .val (.long p1), .second, .val (.long p0), .second, .val (.long p1), .second] [(.long p1), (.ref b276)])) rfl rfl (hb hby d1_41)
  have pre519 : ∀ t, Steps p.tables e below (T518.setTop (mkF m 44 #[rv b276, .val (.long p1), .second, .val (.long p1), .second, .val (.long p1), .second, .val (.long (1 : Int64)), .second, .val (.long p1), .second, .val (.long p0), .second, .val (.long p1), .second] [])) t → Steps p.tables e below (s₁.setTop (entryFrame m #[(.ref b276), (.long p1), (.long p1), (.long p1), (.long (1 : Int64)), (.long p1), (.long p0), (.long p1)] 15)) t := fun t kt => pre517 _ (st518 _ kt)
  have N518 := Fr.snoc X518 N507 g_b276
  have O518 := O507.wr W518 g_b276
  have K518 : Keep h0 h518 [b276] := K507.wr W518 (Or.inl (List.mem_of_getElem? (i := 0) rfl))
  have F520 := F509.wr W518
  have F521 := F511.other W518 (Or.inr (slot_ne (Or.inr (W 12 rfl)) (Or.inr (W 24 rfl)) (by decide) (t := .long) (t' := .long) (by decide) (by decide)))
  have F522 := F512.other W518 (Or.inr (slot_ne (Or.inr (W 14 rfl)) (Or.inr (W 24 rfl)) (by decide) (t := .long) (t' := .long) (by decide) (by decide)))
  have F523 := F513.other W518 (Or.inr (slot_ne (Or.inr (W 16 rfl)) (Or.inr (W 24 rfl)) (by decide) (t := .long) (t' := .long) (by decide) (by decide)))
  have F524 := F514.other W518 (Or.inr (slot_ne (Or.inr (W 18 rfl)) (Or.inr (W 24 rfl)) (by decide) (t := .long) (t' := .long) (by decide) (by decide)))
  have F525 := F515.other W518 (Or.inr (slot_ne (Or.inr (W 20 rfl)) (Or.inr (W 24 rfl)) (by decide) (t := .long) (t' := .long) (by decide) (by decide)))
  have F526 := F516.other W518 (Or.inr (slot_ne (Or.inr (W 22 rfl)) (Or.inr (W 24 rfl)) (by decide) (t := .long) (t' := .long) (by decide) (by decide)))
  have F527 : Fld Z h518 b276 "com/example/osier/osier/SecondFigures" "inside" "J" (.long p1) := F510.same W518
  obtain ⟨fs, hr, hrun, hended, hW, hsame⟩ := X518.leave (v := none) (fun _ => rfl)
  refine ⟨_, _, pre519 _ (X518.returnOut hx Bd.returns (hb hby d1_44) hr), hrun, hended, _, _, rfl, ?_, ⟨_, rfl⟩, hW, hsame.mono (by decide) (by decide)⟩
  show Q_init1_1 Z b276 p1 p0 h0 n0 _ T518.heap _
  rw [e518]
  exact ⟨rfl, N518, K518, O518, F520, F521, F522, F523, F524, F525, F526, F527⟩
def Q_init1_2 (Z : State) (b536 : Addr) (p1 : Int64) (y4 : Int64) (y6 : Int64) (h0 : Heap) (n0 : Nat) (v : Option Value) (h : Heap) (L : List Loc) : Prop := v = none ∧ Fr n0 L ∧ Keep h0 h [b536] ∧ Old Z n0 h ∧ Exa Z h b536 "com/example/osier/osier/SecondFigures" ∧ Fld Z h b536 "com/example/osier/osier/SecondFigures" "startMillis" "J" (.long p1) ∧ Fld Z h b536 "com/example/osier/osier/SecondFigures" "admitted" "J" (.long p1) ∧ Fld Z h b536 "com/example/osier/osier/SecondFigures" "refused" "J" (.long p1) ∧ Fld Z h b536 "com/example/osier/osier/SecondFigures" "completed" "J" (.long y4) ∧ Fld Z h b536 "com/example/osier/osier/SecondFigures" "errors" "J" (.long p1) ∧ Fld Z h b536 "com/example/osier/osier/SecondFigures" "responseTimeMillis" "J" (.long y6) ∧ Fld Z h b536 "com/example/osier/osier/SecondFigures" "inside" "J" (.long p1)
set_option maxRecDepth 65536 in
set_option maxHeartbeats 40000000 in
theorem rm_init1_2 (l : Launch) (Z : State) (a0 : Array Value) (hw : ∀ d ∈ tables_1, d.before a0 Z = true) (ws : List Jvm.Cond) (b536 : Addr) (p1 : Int64) (y4 : Int64) (y6 : Int64) (h0 : Heap) (n0 : Nat) (O0 : Old Z n0 h0) (g_b536 : n0 ≤ b536) (Fi0 : Exa Z h0 b536 "com/example/osier/osier/SecondFigures") (Fi1 : Fld Z h0 b536 "com/example/osier/osier/SecondFigures" "startMillis" "J" (.long (0 : Int64))) (Fi2 : Fld Z h0 b536 "com/example/osier/osier/SecondFigures" "admitted" "J" (.long (0 : Int64))) (Fi3 : Fld Z h0 b536 "com/example/osier/osier/SecondFigures" "refused" "J" (.long (0 : Int64))) (Fi4 : Fld Z h0 b536 "com/example/osier/osier/SecondFigures" "completed" "J" (.long (0 : Int64))) (Fi5 : Fld Z h0 b536 "com/example/osier/osier/SecondFigures" "errors" "J" (.long (0 : Int64))) (Fi6 : Fld Z h0 b536 "com/example/osier/osier/SecondFigures" "responseTimeMillis" "J" (.long (0 : Int64))) (Fi7 : Fld Z h0 b536 "com/example/osier/osier/SecondFigures" "inside" "J" (.long (0 : Int64))) :
    MetFree l (⟨"com/example/osier/osier/SecondFigures", "<init>", "(JJJJJJJ)V"⟩ : MethodName) (head1 (Jvm.Cond.code (⟨"com/example/osier/osier/SecondFigures", "<init>", "(JJJJJJJ)V"⟩ : MethodName) prog_70_method_1_code 15 none :: ws) ({ frames := 1, cells := 0, slots := 0, locals := 12 } : Room)) (fun a U => a = #[(.ref b536), (.long p1), (.long p1), (.long p1), (.long y4), (.long p1), (.long y6), (.long p1)] ∧ Z.Warmed39 U.vm ∧ U.heap = h0) (fun _ _ _ _ _ => True) (fun _ U o U' => ∃ v L, o = .returned v ∧ Q_init1_2 Z b536 p1 y4 y6 h0 n0 v U'.heap L ∧ FrameEnd U o U' L ({ frames := 1, cells := 0, slots := 0, locals := 12 } : Room).cells ({ frames := 1, cells := 0, slots := 0, locals := 12 } : Room).slots) := by
  refine MetFree.of_bodySF (plainFor_of_name pn_0) hisR ?_
  intro p e s m args below meth c s₁ Bd hml0 hP hK
  have W := fun {d : Jvm.Cond} (i : Nat) (q : tables_1[i]? = some d) => hw d (List.mem_of_getElem? q)
  obtain ⟨rfl, hZ, hh⟩ := hP
  have hx := Bd.exec
  have hby := Bd.bytes
  have hml : c.maxLocals = 15 := hml0
  have hown : s.vm.findClass "com/example/osier/osier/SecondFigures" = some m.cls := findClass_of_methodNamed Bd.named
  have hnm := (name_of_methodNamed Bd.named Bd.method).1
  have X0 : Stand p l e ({ frames := 1, cells := 0, slots := 0, locals := 12 } : Room) s m #[(.ref b536), (.long p1), (.long p1), (.long p1), (.long y4), (.long p1), (.long y6), (.long p1)] below meth c s₁ [] 0 0 := Stand.of_body Bd
  have e0 : s₁.heap = h0 := by rw [← hh, Bd.state]; rfl
  have N0 := Fr.nil n0
  have pre0 : ∀ t, Steps p.tables e below (s₁.setTop (mkF m 0 #[rv b536, .val (.long p1), .second, .val (.long p1), .second, .val (.long p1), .second, .val (.long y4), .second, .val (.long p1), .second, .val (.long y6), .second, .val (.long p1), .second] [])) t → Steps p.tables e below (s₁.setTop (entryFrame m #[(.ref b536), (.long p1), (.long p1), (.long p1), (.long y4), (.long p1), (.long y6), (.long p1)] 15)) t := fun t k => castTop (ef_4 m b536 p1 p1 p1 y4 p1 y6 p1) k
  have K0 : Keep h0 h0 [b536] := Keep.refl h0 [b536]
  have pre708 : ∀ t, Steps p.tables e below (s₁.setTop (mkF m 1 #[rv b536, .val (.long p1), .second, .val (.long p1), .second, .val (.long p1), .second, .val (.long y4), .second, .val (.long p1), .second, .val (.long y6), .second, .val (.long p1), .second] [(.ref b536)])) t → Steps p.tables e below (s₁.setTop (entryFrame m #[(.ref b536), (.long p1), (.long p1), (.long p1), (.long y4), (.long p1), (.long y6), (.long p1)] 15)) t := fun t kt => by
    refine pre0 _ ?_
    show Steps p.tables e below (s₁.setTop (mkF m 0 #[rv b536, .val (.long p1), .second, .val (.long p1), .second, .val (.long p1), .second, .val (.long y4), .second, .val (.long p1), .second, .val (.long y6), .second, .val (.long p1), .second] [])) _
    refine XS.aloadN X0.here hx rfl (hb hby d1_0) rfl rfl ?_
    exact kt
  obtain ⟨T709, X709, e709, st709⟩ := initO X0 hx hZ hown (W 8 rfl) (W 9 rfl) (W 10 rfl) e0 (g := (mkF m 1 #[rv b536, .val (.long p1), .second, .val (.long p1), .second, .val (.long p1), .second, .val (.long y4), .second, .val (.long p1), .second, .val (.long y6), .second, .val (.long p1), .second] [(.ref b536)])) rfl (by rw [hml]; rfl) rfl (hb hby d1_1) (by decide) (W := 0) (by show 2 * 0 + _ ≤ _; exact Nat.le_of_eq rfl) (by decide)
  have pre710 : ∀ t, Steps p.tables e below (T709.setTop (mkF m 4 #[rv b536, .val (.long p1), .second, .val (.long p1), .second, .val (.long p1), .second, .val (.long y4), .second, .val (.long p1), .second, .val (.long y6), .second, .val (.long p1), .second] [])) t → Steps p.tables e below (s₁.setTop (entryFrame m #[(.ref b536), (.long p1), (.long p1), (.long p1), (.long y4), (.long p1), (.long y6), (.long p1)] 15)) t := fun t kt => pre708 _ (st709 _ kt)
  have pre711 : ∀ t, Steps p.tables e below (T709.setTop (mkF m 6 #[rv b536, .val (.long p1), .second, .val (.long p1), .second, .val (.long p1), .second, .val (.long y4), .second, .val (.long p1), .second, .val (.long y6), .second, .val (.long p1), .second] [(.long p1), (.ref b536)])) t → Steps p.tables e below (s₁.setTop (entryFrame m #[(.ref b536), (.long p1), (.long p1), (.long p1), (.long y4), (.long p1), (.long y6), (.long p1)] 15)) t := fun t kt => by
    refine pre710 _ ?_
    show Steps p.tables e below (T709.setTop (mkF m 4 #[rv b536, .val (.long p1), .second, .val (.long p1), .second, .val (.long p1), .second, .val (.long y4), .second, .val (.long p1), .second, .val (.long y6), .second, .val (.long p1), .second] [])) _
    refine XS.aloadN X709.here hx rfl (hb hby d1_4) rfl rfl ?_
    show Steps p.tables e below (T709.setTop (mkF m 5 #[rv b536, .val (.long p1), .second, .val (.long p1), .second, .val (.long p1), .second, .val (.long y4), .second, .val (.long p1), .second, .val (.long y6), .second, .val (.long p1), .second] [(.ref b536)])) _
    refine XS.lloadN X709.here hx rfl (hb hby d1_5) rfl ?_
    exact kt
  obtain ⟨T712, h712, X712, e712, W712, st712⟩ := putF X709 hx hZ hown (host := "") (Or.inl (W 11 rfl)) Via.refl e709 Fi1 Fi0 (Or.inr ⟨(W 12 rfl), rfl, hnm⟩) (W 3 rfl) (ty := .long) (by decide) rfl rfl (g := (mkF m 6 #[rv b536, .val (.long p1), .second, .val (.long p1), .second, .val (.long p1), .second, .val (.long y4), .second, .val (.long p1), .second, .val (.long y6), .second, .val (.long p1), .second] [(.long p1), (.ref b536)])) rfl rfl (hb hby d1_6)
  have pre713 : ∀ t, Steps p.tables e below (T712.setTop (mkF m 9 #[rv b536, .val (.long p1), .second, .val (.long p1), .second, .val (.long p1), .second, .val (.long y4), .second, .val (.long p1), .second, .val (.long y6), .second, .val (.long p1), .second] [])) t → Steps p.tables e below (s₁.setTop (entryFrame m #[(.ref b536), (.long p1), (.long p1), (.long p1), (.long y4), (.long p1), (.long y6), (.long p1)] 15)) t := fun t kt => pre711 _ (st712 _ kt)
  have N712 := Fr.snoc X712 N0 g_b536
  have O712 := O0.wr W712 g_b536
  have K712 : Keep h0 h712 [b536] := K0.wr W712 (Or.inl (List.mem_of_getElem? (i := 0) rfl))
  have F714 := Fi0.wr W712
  have F715 := Fi2.other W712 (Or.inr (slot_ne (Or.inr (W 14 rfl)) (Or.inr (W 12 rfl)) (by decide) (t := .long) (t' := .long) (by decide) (by decide)))
  have F716 := Fi3.other W712 (Or.inr (slot_ne (Or.inr (W 16 rfl)) (Or.inr (W 12 rfl)) (by decide) (t := .long) (t' := .long) (by decide) (by decide)))
  have F717 := Fi4.other W712 (Or.inr (slot_ne (Or.inr (W 18 rfl)) (Or.inr (W 12 rfl)) (by decide) (t := .long) (t' := .long) (by decide) (by decide)))
  have F718 := Fi5.other W712 (Or.inr (slot_ne (Or.inr (W 20 rfl)) (Or.inr (W 12 rfl)) (by decide) (t := .long) (t' := .long) (by decide) (by decide)))
  have F719 := Fi6.other W712 (Or.inr (slot_ne (Or.inr (W 22 rfl)) (Or.inr (W 12 rfl)) (by decide) (t := .long) (t' := .long) (by decide) (by decide)))
  have F720 := Fi7.other W712 (Or.inr (slot_ne (Or.inr (W 24 rfl)) (Or.inr (W 12 rfl)) (by decide) (t := .long) (t' := .long) (by decide) (by decide)))
  have F721 : Fld Z h712 b536 "com/example/osier/osier/SecondFigures" "startMillis" "J" (.long p1) := Fi1.same W712
  have pre722 : ∀ t, Steps p.tables e below (T712.setTop (mkF m 11 #[rv b536, .val (.long p1), .second, .val (.long p1), .second, .val (.long p1), .second, .val (.long y4), .second, .val (.long p1), .second, .val (.long y6), .second, .val (.long p1), .second] [(.long p1), (.ref b536)])) t → Steps p.tables e below (s₁.setTop (entryFrame m #[(.ref b536), (.long p1), (.long p1), (.long p1), (.long y4), (.long p1), (.long y6), (.long p1)] 15)) t := fun t kt => by
    refine pre713 _ ?_
    show Steps p.tables e below (T712.setTop (mkF m 9 #[rv b536, .val (.long p1), .second, .val (.long p1), .second, .val (.long p1), .second, .val (.long y4), .second, .val (.long p1), .second, .val (.long y6), .second, .val (.long p1), .second] [])) _
    refine XS.aloadN X712.here hx rfl (hb hby d1_9) rfl rfl ?_
    show Steps p.tables e below (T712.setTop (mkF m 10 #[rv b536, .val (.long p1), .second, .val (.long p1), .second, .val (.long p1), .second, .val (.long y4), .second, .val (.long p1), .second, .val (.long y6), .second, .val (.long p1), .second] [(.ref b536)])) _
    refine XS.lloadN X712.here hx rfl (hb hby d1_10) rfl ?_
    exact kt
  obtain ⟨T723, h723, X723, e723, W723, st723⟩ := putF X712 hx hZ hown (host := "") (Or.inl (W 13 rfl)) Via.refl e712 F715 F714 (Or.inr ⟨(W 14 rfl), rfl, hnm⟩) (W 3 rfl) (ty := .long) (by decide) rfl rfl (g := (mkF m 11 #[rv b536, .val (.long p1), .second, .val (.long p1), .second, .val (.long p1), .second, .val (.long y4), .second, .val (.long p1), .second, .val (.long y6), .second, .val (.long p1), .second] [(.long p1), (.ref b536)])) rfl rfl (hb hby d1_11)
  have pre724 : ∀ t, Steps p.tables e below (T723.setTop (mkF m 14 #[rv b536, .val (.long p1), .second, .val (.long p1), .second, .val (.long p1), .second, .val (.long y4), .second, .val (.long p1), .second, .val (.long y6), .second, .val (.long p1), .second] [])) t → Steps p.tables e below (s₁.setTop (entryFrame m #[(.ref b536), (.long p1), (.long p1), (.long p1), (.long y4), (.long p1), (.long y6), (.long p1)] 15)) t := fun t kt => pre722 _ (st723 _ kt)
  have N723 := Fr.snoc X723 N712 g_b536
  have O723 := O712.wr W723 g_b536
  have K723 : Keep h0 h723 [b536] := K712.wr W723 (Or.inl (List.mem_of_getElem? (i := 0) rfl))
  have F725 := F714.wr W723
  have F726 := F716.other W723 (Or.inr (slot_ne (Or.inr (W 16 rfl)) (Or.inr (W 14 rfl)) (by decide) (t := .long) (t' := .long) (by decide) (by decide)))
  have F727 := F717.other W723 (Or.inr (slot_ne (Or.inr (W 18 rfl)) (Or.inr (W 14 rfl)) (by decide) (t := .long) (t' := .long) (by decide) (by decide)))
  have F728 := F718.other W723 (Or.inr (slot_ne (Or.inr (W 20 rfl)) (Or.inr (W 14 rfl)) (by decide) (t := .long) (t' := .long) (by decide) (by decide)))
  have F729 := F719.other W723 (Or.inr (slot_ne (Or.inr (W 22 rfl)) (Or.inr (W 14 rfl)) (by decide) (t := .long) (t' := .long) (by decide) (by decide)))
  have F730 := F720.other W723 (Or.inr (slot_ne (Or.inr (W 24 rfl)) (Or.inr (W 14 rfl)) (by decide) (t := .long) (t' := .long) (by decide) (by decide)))
  have F731 := F721.other W723 (Or.inr (slot_ne (Or.inr (W 12 rfl)) (Or.inr (W 14 rfl)) (by decide) (t := .long) (t' := .long) (by decide) (by decide)))
  have F732 : Fld Z h723 b536 "com/example/osier/osier/SecondFigures" "admitted" "J" (.long p1) := F715.same W723
  have pre733 : ∀ t, Steps p.tables e below (T723.setTop (mkF m 17 #[rv b536, .val (.long p1), .second, .val (.long p1), .second, .val (.long p1), .second, .val (.long y4), .second, .val (.long p1), .second, .val (.long y6), .second, .val (.long p1), .second] [(.long p1), (.ref b536)])) t → Steps p.tables e below (s₁.setTop (entryFrame m #[(.ref b536), (.long p1), (.long p1), (.long p1), (.long y4), (.long p1), (.long y6), (.long p1)] 15)) t := fun t kt => by
    refine pre724 _ ?_
    show Steps p.tables e below (T723.setTop (mkF m 14 #[rv b536, .val (.long p1), .second, .val (.long p1), .second, .val (.long p1), .second, .val (.long y4), .second, .val (.long p1), .second, .val (.long y6), .second, .val (.long p1), .second] [])) _
    refine XS.aloadN X723.here hx rfl (hb hby d1_14) rfl rfl ?_
    show Steps p.tables e below (T723.setTop (mkF m 15 #[rv b536, .val (.long p1), .second, .val (.long p1), .second, .val (.long p1), .second, .val (.long y4), .second, .val (.long p1), .second, .val (.long y6), .second, .val (.long p1), .second] [(.ref b536)])) _
    refine XS.lload X723.here hx rfl (hb hby d1_15) rfl ?_
    exact kt
  obtain ⟨T734, h734, X734, e734, W734, st734⟩ := putF X723 hx hZ hown (host := "") (Or.inl (W 15 rfl)) Via.refl e723 F726 F725 (Or.inr ⟨(W 16 rfl), rfl, hnm⟩) (W 3 rfl) (ty := .long) (by decide) rfl rfl (g := (mkF m 17 #[rv b536, .val (.long p1), .second, .val (.long p1), .second, .val (.long p1), .second, .val (.long y4), .second, .val (.long p1), .second, .val (.long y6), .second, .val (.long p1), .second] [(.long p1), (.ref b536)])) rfl rfl (hb hby d1_17)
  have pre735 : ∀ t, Steps p.tables e below (T734.setTop (mkF m 20 #[rv b536, .val (.long p1), .second, .val (.long p1), .second, .val (.long p1), .second, .val (.long y4), .second, .val (.long p1), .second, .val (.long y6), .second, .val (.long p1), .second] [])) t → Steps p.tables e below (s₁.setTop (entryFrame m #[(.ref b536), (.long p1), (.long p1), (.long p1), (.long y4), (.long p1), (.long y6), (.long p1)] 15)) t := fun t kt => pre733 _ (st734 _ kt)
  have N734 := Fr.snoc X734 N723 g_b536
  have O734 := O723.wr W734 g_b536
  have K734 : Keep h0 h734 [b536] := K723.wr W734 (Or.inl (List.mem_of_getElem? (i := 0) rfl))
  have F736 := F725.wr W734
  have F737 := F727.other W734 (Or.inr (slot_ne (Or.inr (W 18 rfl)) (Or.inr (W 16 rfl)) (by decide) (t := .long) (t' := .long) (by decide) (by decide)))
  have F738 := F728.other W734 (Or.inr (slot_ne (Or.inr (W 20 rfl)) (Or.inr (W 16 rfl)) (by decide) (t := .long) (t' := .long) (by decide) (by decide)))
  have F739 := F729.other W734 (Or.inr (slot_ne (Or.inr (W 22 rfl)) (Or.inr (W 16 rfl)) (by decide) (t := .long) (t' := .long) (by decide) (by decide)))
  have F740 := F730.other W734 (Or.inr (slot_ne (Or.inr (W 24 rfl)) (Or.inr (W 16 rfl)) (by decide) (t := .long) (t' := .long) (by decide) (by decide)))
  have F741 := F731.other W734 (Or.inr (slot_ne (Or.inr (W 12 rfl)) (Or.inr (W 16 rfl)) (by decide) (t := .long) (t' := .long) (by decide) (by decide)))
  have F742 := F732.other W734 (Or.inr (slot_ne (Or.inr (W 14 rfl)) (Or.inr (W 16 rfl)) (by decide) (t := .long) (t' := .long) (by decide) (by decide)))
  have F743 : Fld Z h734 b536 "com/example/osier/osier/SecondFigures" "refused" "J" (.long p1) := F726.same W734
  have pre744 : ∀ t, Steps p.tables e below (T734.setTop (mkF m 23 #[rv b536, .val (.long p1), .second, .val (.long p1), .second, .val (.long p1), .second, .val (.long y4), .second, .val (.long p1), .second, .val (.long y6), .second, .val (.long p1), .second] [(.long y4), (.ref b536)])) t → Steps p.tables e below (s₁.setTop (entryFrame m #[(.ref b536), (.long p1), (.long p1), (.long p1), (.long y4), (.long p1), (.long y6), (.long p1)] 15)) t := fun t kt => by
    refine pre735 _ ?_
    show Steps p.tables e below (T734.setTop (mkF m 20 #[rv b536, .val (.long p1), .second, .val (.long p1), .second, .val (.long p1), .second, .val (.long y4), .second, .val (.long p1), .second, .val (.long y6), .second, .val (.long p1), .second] [])) _
    refine XS.aloadN X734.here hx rfl (hb hby d1_20) rfl rfl ?_
    show Steps p.tables e below (T734.setTop (mkF m 21 #[rv b536, .val (.long p1), .second, .val (.long p1), .second, .val (.long p1), .second, .val (.long y4), .second, .val (.long p1), .second, .val (.long y6), .second, .val (.long p1), .second] [(.ref b536)])) _
    refine XS.lload X734.here hx rfl (hb hby d1_21) rfl ?_
    exact kt
  obtain ⟨T745, h745, X745, e745, W745, st745⟩ := putF X734 hx hZ hown (host := "") (Or.inl (W 17 rfl)) Via.refl e734 F737 F736 (Or.inr ⟨(W 18 rfl), rfl, hnm⟩) (W 3 rfl) (ty := .long) (by decide) rfl rfl (g := (mkF m 23 #[rv b536, .val (.long p1), .second, .val (.long p1), .second, .val (.long p1), .second, .val (.long y4), .second, .val (.long p1), .second, .val (.long y6), .second, .val (.long p1), .second] [(.long y4), (.ref b536)])) rfl rfl (hb hby d1_23)
  have pre746 : ∀ t, Steps p.tables e below (T745.setTop (mkF m 26 #[rv b536, .val (.long p1), .second, .val (.long p1), .second, .val (.long p1), .second, .val (.long y4), .second, .val (.long p1), .second, .val (.long y6), .second, .val (.long p1), .second] [])) t → Steps p.tables e below (s₁.setTop (entryFrame m #[(.ref b536), (.long p1), (.long p1), (.long p1), (.long y4), (.long p1), (.long y6), (.long p1)] 15)) t := fun t kt => pre744 _ (st745 _ kt)
  have N745 := Fr.snoc X745 N734 g_b536
  have O745 := O734.wr W745 g_b536
  have K745 : Keep h0 h745 [b536] := K734.wr W745 (Or.inl (List.mem_of_getElem? (i := 0) rfl))
  have F747 := F736.wr W745
  have F748 := F738.other W745 (Or.inr (slot_ne (Or.inr (W 20 rfl)) (Or.inr (W 18 rfl)) (by decide) (t := .long) (t' := .long) (by decide) (by decide)))
  have F749 := F739.other W745 (Or.inr (slot_ne (Or.inr (W 22 rfl)) (Or.inr (W 18 rfl)) (by decide) (t := .long) (t' := .long) (by decide) (by decide)))
  have F750 := F740.other W745 (Or.inr (slot_ne (Or.inr (W 24 rfl)) (Or.inr (W 18 rfl)) (by decide) (t := .long) (t' := .long) (by decide) (by decide)))
  have F751 := F741.other W745 (Or.inr (slot_ne (Or.inr (W 12 rfl)) (Or.inr (W 18 rfl)) (by decide) (t := .long) (t' := .long) (by decide) (by decide)))
  have F752 := F742.other W745 (Or.inr (slot_ne (Or.inr (W 14 rfl)) (Or.inr (W 18 rfl)) (by decide) (t := .long) (t' := .long) (by decide) (by decide)))
  have F753 := F743.other W745 (Or.inr (slot_ne (Or.inr (W 16 rfl)) (Or.inr (W 18 rfl)) (by decide) (t := .long) (t' := .long) (by decide) (by decide)))
  have F754 : Fld Z h745 b536 "com/example/osier/osier/SecondFigures" "completed" "J" (.long y4) := F737.same W745
  have pre755 : ∀ t, Steps p.tables e below (T745.setTop (mkF m 29 #[rv b536, .val (.long p1), .second, .val (.long p1), .second, .val (.long p1), .second, .val (.long y4), .second, .val (.long p1), .second, .val (.long y6), .second, .val (.long p1), .second] [(.long p1), (.ref b536)])) t → Steps p.tables e below (s₁.setTop (entryFrame m #[(.ref b536), (.long p1), (.long p1), (.long p1), (.long y4), (.long p1), (.long y6), (.long p1)] 15)) t := fun t kt => by
    refine pre746 _ ?_
    show Steps p.tables e below (T745.setTop (mkF m 26 #[rv b536, .val (.long p1), .second, .val (.long p1), .second, .val (.long p1), .second, .val (.long y4), .second, .val (.long p1), .second, .val (.long y6), .second, .val (.long p1), .second] [])) _
    refine XS.aloadN X745.here hx rfl (hb hby d1_26) rfl rfl ?_
    show Steps p.tables e below (T745.setTop (mkF m 27 #[rv b536, .val (.long p1), .second, .val (.long p1), .second, .val (.long p1), .second, .val (.long y4), .second, .val (.long p1), .second, .val (.long y6), .second, .val (.long p1), .second] [(.ref b536)])) _
    refine XS.lload X745.here hx rfl (hb hby d1_27) rfl ?_
    exact kt
  obtain ⟨T756, h756, X756, e756, W756, st756⟩ := putF X745 hx hZ hown (host := "") (Or.inl (W 19 rfl)) Via.refl e745 F748 F747 (Or.inr ⟨(W 20 rfl), rfl, hnm⟩) (W 3 rfl) (ty := .long) (by decide) rfl rfl (g := (mkF m 29 #[rv b536, .val (.long p1), .second, .val (.long p1), .second, .val (.long p1), .second, .val (.long y4), .second, .val (.long p1), .second, .val (.long y6), .second, .val (.long p1), .second] [(.long p1), (.ref b536)])) rfl rfl (hb hby d1_29)
  have pre757 : ∀ t, Steps p.tables e below (T756.setTop (mkF m 32 #[rv b536, .val (.long p1), .second, .val (.long p1), .second, .val (.long p1), .second, .val (.long y4), .second, .val (.long p1), .second, .val (.long y6), .second, .val (.long p1), .second] [])) t → Steps p.tables e below (s₁.setTop (entryFrame m #[(.ref b536), (.long p1), (.long p1), (.long p1), (.long y4), (.long p1), (.long y6), (.long p1)] 15)) t := fun t kt => pre755 _ (st756 _ kt)
  have N756 := Fr.snoc X756 N745 g_b536
  have O756 := O745.wr W756 g_b536
  have K756 : Keep h0 h756 [b536] := K745.wr W756 (Or.inl (List.mem_of_getElem? (i := 0) rfl))
  have F758 := F747.wr W756
  have F759 := F749.other W756 (Or.inr (slot_ne (Or.inr (W 22 rfl)) (Or.inr (W 20 rfl)) (by decide) (t := .long) (t' := .long) (by decide) (by decide)))
  have F760 := F750.other W756 (Or.inr (slot_ne (Or.inr (W 24 rfl)) (Or.inr (W 20 rfl)) (by decide) (t := .long) (t' := .long) (by decide) (by decide)))
  have F761 := F751.other W756 (Or.inr (slot_ne (Or.inr (W 12 rfl)) (Or.inr (W 20 rfl)) (by decide) (t := .long) (t' := .long) (by decide) (by decide)))
  have F762 := F752.other W756 (Or.inr (slot_ne (Or.inr (W 14 rfl)) (Or.inr (W 20 rfl)) (by decide) (t := .long) (t' := .long) (by decide) (by decide)))
  have F763 := F753.other W756 (Or.inr (slot_ne (Or.inr (W 16 rfl)) (Or.inr (W 20 rfl)) (by decide) (t := .long) (t' := .long) (by decide) (by decide)))
  have F764 := F754.other W756 (Or.inr (slot_ne (Or.inr (W 18 rfl)) (Or.inr (W 20 rfl)) (by decide) (t := .long) (t' := .long) (by decide) (by decide)))
  have F765 : Fld Z h756 b536 "com/example/osier/osier/SecondFigures" "errors" "J" (.long p1) := F748.same W756
  have pre766 : ∀ t, Steps p.tables e below (T756.setTop (mkF m 35 #[rv b536, .val (.long p1), .second, .val (.long p1), .second, .val (.long p1), .second, .val (.long y4), .second, .val (.long p1), .second, .val (.long y6), .second, .val (.long p1), .second] [(.long y6), (.ref b536)])) t → Steps p.tables e below (s₁.setTop (entryFrame m #[(.ref b536), (.long p1), (.long p1), (.long p1), (.long y4), (.long p1), (.long y6), (.long p1)] 15)) t := fun t kt => by
    refine pre757 _ ?_
    show Steps p.tables e below (T756.setTop (mkF m 32 #[rv b536, .val (.long p1), .second, .val (.long p1), .second, .val (.long p1), .second, .val (.long y4), .second, .val (.long p1), .second, .val (.long y6), .second, .val (.long p1), .second] [])) _
    refine XS.aloadN X756.here hx rfl (hb hby d1_32) rfl rfl ?_
    show Steps p.tables e below (T756.setTop (mkF m 33 #[rv b536, .val (.long p1), .second, .val (.long p1), .second, .val (.long p1), .second, .val (.long y4), .second, .val (.long p1), .second, .val (.long y6), .second, .val (.long p1), .second] [(.ref b536)])) _
    refine XS.lload X756.here hx rfl (hb hby d1_33) rfl ?_
    exact kt
  obtain ⟨T767, h767, X767, e767, W767, st767⟩ := putF X756 hx hZ hown (host := "") (Or.inl (W 21 rfl)) Via.refl e756 F759 F758 (Or.inr ⟨(W 22 rfl), rfl, hnm⟩) (W 3 rfl) (ty := .long) (by decide) rfl rfl (g := (mkF m 35 #[rv b536, .val (.long p1), .second, .val (.long p1), .second, .val (.long p1), .second, .val (.long y4), .second, .val (.long p1), .second, .val (.long y6), .second, .val (.long p1), .second] [(.long y6), (.ref b536)])) rfl rfl (hb hby d1_35)
  have pre768 : ∀ t, Steps p.tables e below (T767.setTop (mkF m 38 #[rv b536, .val (.long p1), .second, .val (.long p1), .second, .val (.long p1), .second, .val (.long y4), .second, .val (.long p1), .second, .val (.long y6), .second, .val (.long p1), .second] [])) t → Steps p.tables e below (s₁.setTop (entryFrame m #[(.ref b536), (.long p1), (.long p1), (.long p1), (.long y4), (.long p1), (.long y6), (.long p1)] 15)) t := fun t kt => pre766 _ (st767 _ kt)
  have N767 := Fr.snoc X767 N756 g_b536
  have O767 := O756.wr W767 g_b536
  have K767 : Keep h0 h767 [b536] := K756.wr W767 (Or.inl (List.mem_of_getElem? (i := 0) rfl))
  have F769 := F758.wr W767
  have F770 := F760.other W767 (Or.inr (slot_ne (Or.inr (W 24 rfl)) (Or.inr (W 22 rfl)) (by decide) (t := .long) (t' := .long) (by decide) (by decide)))
  have F771 := F761.other W767 (Or.inr (slot_ne (Or.inr (W 12 rfl)) (Or.inr (W 22 rfl)) (by decide) (t := .long) (t' := .long) (by decide) (by decide)))
  have F772 := F762.other W767 (Or.inr (slot_ne (Or.inr (W 14 rfl)) (Or.inr (W 22 rfl)) (by decide) (t := .long) (t' := .long) (by decide) (by decide)))
  have F773 := F763.other W767 (Or.inr (slot_ne (Or.inr (W 16 rfl)) (Or.inr (W 22 rfl)) (by decide) (t := .long) (t' := .long) (by decide) (by decide)))
  have F774 := F764.other W767 (Or.inr (slot_ne (Or.inr (W 18 rfl)) (Or.inr (W 22 rfl)) (by decide) (t := .long) (t' := .long) (by decide) (by decide)))
  have F775 := F765.other W767 (Or.inr (slot_ne (Or.inr (W 20 rfl)) (Or.inr (W 22 rfl)) (by decide) (t := .long) (t' := .long) (by decide) (by decide)))
  have F776 : Fld Z h767 b536 "com/example/osier/osier/SecondFigures" "responseTimeMillis" "J" (.long y6) := F759.same W767
  have pre777 : ∀ t, Steps p.tables e below (T767.setTop (mkF m 41 #[rv b536, .val (.long p1), .second, .val (.long p1), .second, .val (.long p1), .second, .val (.long y4), .second, .val (.long p1), .second, .val (.long y6), .second, .val (.long p1), .second] [(.long p1), (.ref b536)])) t → Steps p.tables e below (s₁.setTop (entryFrame m #[(.ref b536), (.long p1), (.long p1), (.long p1), (.long y4), (.long p1), (.long y6), (.long p1)] 15)) t := fun t kt => by
    refine pre768 _ ?_
    show Steps p.tables e below (T767.setTop (mkF m 38 #[rv b536, .val (.long p1), .second, .val (.long p1), .second, .val (.long p1), .second, .val (.long y4), .second, .val (.long p1), .second, .val (.long y6), .second, .val (.long p1), .second] [])) _
    refine XS.aloadN X767.here hx rfl (hb hby d1_38) rfl rfl ?_
    show Steps p.tables e below (T767.setTop (mkF m 39 #[rv b536, .val (.long p1), .second, .val (.long p1), .second, .val (.long p1), .second, .val (.long y4), .second, .val (.long p1), .second, .val (.long y6), .second, .val (.long p1), .second] [(.ref b536)])) _
    refine XS.lload X767.here hx rfl (hb hby d1_39) rfl ?_
    exact kt
  obtain ⟨T778, h778, X778, e778, W778, st778⟩ := putF X767 hx hZ hown (host := "") (Or.inl (W 23 rfl)) Via.refl e767 F770 F769 (Or.inr ⟨(W 24 rfl), rfl, hnm⟩) (W 3 rfl) (ty := .long) (by decide) rfl rfl (g := (mkF m 41 #[rv b536, .val (.long p1), .second, .val (.long p1), .second, .val (.long p1), .second, .val (.long y4), .second, .val (.long p1), .second, .val (.long y6), .second, .val (.long p1), .second] [(.long p1), (.ref b536)])) rfl rfl (hb hby d1_41)
  have pre779 : ∀ t, Steps p.tables e below (T778.setTop (mkF m 44 #[rv b536, .val (.long p1), .second, .val (.long p1), .second, .val (.long p1), .second, .val (.long y4), .second, .val (.long p1), .second, .val (.long y6), .second, .val (.long p1), .second] [])) t → Steps p.tables e below (s₁.setTop (entryFrame m #[(.ref b536), (.long p1), (.long p1), (.long p1), (.long y4), (.long p1), (.long y6), (.long p1)] 15)) t := fun t kt => pre777 _ (st778 _ kt)
  have N778 := Fr.snoc X778 N767 g_b536
  have O778 := O767.wr W778 g_b536
  have K778 : Keep h0 h778 [b536] := K767.wr W778 (Or.inl (List.mem_of_getElem? (i := 0) rfl))
  have F780 := F769.wr W778
  have F781 := F771.other W778 (Or.inr (slot_ne (Or.inr (W 12 rfl)) (Or.inr (W 24 rfl)) (by decide) (t := .long) (t' := .long) (by decide) (by decide)))
  have F782 := F772.other W778 (Or.inr (slot_ne (Or.inr (W 14 rfl)) (Or.inr (W 24 rfl)) (by decide) (t := .long) (t' := .long) (by decide) (by decide)))
  have F783 := F773.other W778 (Or.inr (slot_ne (Or.inr (W 16 rfl)) (Or.inr (W 24 rfl)) (by decide) (t := .long) (t' := .long) (by decide) (by decide)))
  have F784 := F774.other W778 (Or.inr (slot_ne (Or.inr (W 18 rfl)) (Or.inr (W 24 rfl)) (by decide) (t := .long) (t' := .long) (by decide) (by decide)))
  have F785 := F775.other W778 (Or.inr (slot_ne (Or.inr (W 20 rfl)) (Or.inr (W 24 rfl)) (by decide) (t := .long) (t' := .long) (by decide) (by decide)))
  have F786 := F776.other W778 (Or.inr (slot_ne (Or.inr (W 22 rfl)) (Or.inr (W 24 rfl)) (by decide) (t := .long) (t' := .long) (by decide) (by decide)))
  have F787 : Fld Z h778 b536 "com/example/osier/osier/SecondFigures" "inside" "J" (.long p1) := F770.same W778
  obtain ⟨fs, hr, hrun, hended, hW, hsame⟩ := X778.leave (v := none) (fun _ => rfl)
  refine ⟨_, _, pre779 _ (X778.returnOut hx Bd.returns (hb hby d1_44) hr), hrun, hended, _, _, rfl, ?_, ⟨_, rfl⟩, hW, hsame.mono (by decide) (by decide)⟩
  show Q_init1_2 Z b536 p1 y4 y6 h0 n0 _ T778.heap _
  rw [e778]
  exact ⟨rfl, N778, K778, O778, F780, F781, F782, F783, F784, F785, F786, F787⟩
def Q_law (Z : State) (p0 : Int64) (p1 : Int64) (p2 : Int32) (p3 : Int32) (p4 : Int32) (p5 : Int32) (h0 : Heap) (n0 : Nat) (v : Option Value) (h : Heap) (L : List Loc) : Prop := v = some (.int (1 : Int32)) ∧ Fr n0 L
set_option maxRecDepth 65536 in
set_option maxHeartbeats 40000000 in
theorem rm_law (l : Launch) (Z : State) (a0 : Array Value) (hw : ∀ d ∈ tables_1, d.before a0 Z = true) (ws : List Jvm.Cond) (p0 : Int64) (p1 : Int64) (p2 : Int32) (p3 : Int32) (p4 : Int32) (p5 : Int32) (h0 : Heap) (n0 : Nat) (O0 : Old Z n0 h0) :
    MetFree l x (head1 (Jvm.Cond.code x code maxLocals ret :: ws) room_1) (fun a U => a = #[(.long p0), (.long p1), (.int p2), (.int p3), (.int p4), (.int p5)] ∧ Z.Warmed39 U.vm ∧ U.heap = h0) (fun _ _ _ _ _ => True) (fun _ U o U' => ∃ v L, o = .returned v ∧ Q_law Z p0 p1 p2 p3 p4 p5 h0 n0 v U'.heap L ∧ FrameEnd U o U' L room_1.cells room_1.slots) := by
  refine MetFree.of_bodySF (plainFor_of_name pn_2) hisR ?_
  intro p e s m args below meth c s₁ Bd hml0 hP hK
  have W := fun {d : Jvm.Cond} (i : Nat) (q : tables_1[i]? = some d) => hw d (List.mem_of_getElem? q)
  obtain ⟨rfl, hZ, hh⟩ := hP
  have hx := Bd.exec
  have hby := Bd.bytes
  have hml : c.maxLocals = 23 := hml0
  have hown : s.vm.findClass "com/example/osier/osier/SecondFiguresAverageResponseTimeMillisPinLaw" = some m.cls := findClass_of_methodNamed Bd.named
  have hnm := (name_of_methodNamed Bd.named Bd.method).1
  have X0 : Stand p l e room_1 s m #[(.long p0), (.long p1), (.int p2), (.int p3), (.int p4), (.int p5)] below meth c s₁ [] 0 0 := Stand.of_body Bd
  have e0 : s₁.heap = h0 := by rw [← hh, Bd.state]; rfl
  have N0 := Fr.nil n0
  have pre0 : ∀ t, Steps p.tables e below (s₁.setTop (mkF m 0 #[.val (.long p0), .second, .val (.long p1), .second, iv p2, iv p3, iv p4, iv p5, .unset, .unset, .unset, .unset, .unset, .unset, .unset, .unset, .unset, .unset, .unset, .unset, .unset, .unset, .unset] [])) t → Steps p.tables e below (s₁.setTop (entryFrame m #[(.long p0), (.long p1), (.int p2), (.int p3), (.int p4), (.int p5)] maxLocals)) t := fun t k => castTop (ef_3 m p0 p1 p2 p3 p4 p5) k
  have K0 : Keep h0 h0 [] := Keep.refl h0 []
  have pre15 : ∀ t, Steps p.tables e below (s₁.setTop (mkF m 6 #[.val (.long p0), .second, .val (.long p1), .second, iv p2, iv p3, iv p4, iv p5, iv (p5 &&& (3 : Int32)), .unset, .unset, .unset, .unset, .unset, .unset, .unset, .unset, .unset, .unset, .unset, .unset, .unset, .unset] [])) t → Steps p.tables e below (s₁.setTop (entryFrame m #[(.long p0), (.long p1), (.int p2), (.int p3), (.int p4), (.int p5)] maxLocals)) t := fun t kt => by
    refine pre0 _ ?_
    show Steps p.tables e below (s₁.setTop (mkF m 0 #[.val (.long p0), .second, .val (.long p1), .second, iv p2, iv p3, iv p4, iv p5, .unset, .unset, .unset, .unset, .unset, .unset, .unset, .unset, .unset, .unset, .unset, .unset, .unset, .unset, .unset] [])) _
    refine XS.iload X0.here hx rfl (hb hby at_0) rfl ?_
    show Steps p.tables e below (s₁.setTop (mkF m 2 #[.val (.long p0), .second, .val (.long p1), .second, iv p2, iv p3, iv p4, iv p5, .unset, .unset, .unset, .unset, .unset, .unset, .unset, .unset, .unset, .unset, .unset, .unset, .unset, .unset, .unset] [(.int p5)])) _
    refine XS.iconst X0.here hx rfl (hb hby at_2) ?_
    show Steps p.tables e below (s₁.setTop (mkF m 3 #[.val (.long p0), .second, .val (.long p1), .second, iv p2, iv p3, iv p4, iv p5, .unset, .unset, .unset, .unset, .unset, .unset, .unset, .unset, .unset, .unset, .unset, .unset, .unset, .unset, .unset] [(.int (3 : Int32)), (.int p5)])) _
    refine XS.iand X0.here hx rfl (hb hby at_3) rfl ?_
    show Steps p.tables e below (s₁.setTop (mkF m 4 #[.val (.long p0), .second, .val (.long p1), .second, iv p2, iv p3, iv p4, iv p5, .unset, .unset, .unset, .unset, .unset, .unset, .unset, .unset, .unset, .unset, .unset, .unset, .unset, .unset, .unset] [(.int (p5 &&& (3 : Int32)))])) _
    refine XS.istore X0.here hx rfl (hb hby at_4) rfl (l' := #[.val (.long p0), .second, .val (.long p1), .second, iv p2, iv p3, iv p4, iv p5, iv (p5 &&& (3 : Int32)), .unset, .unset, .unset, .unset, .unset, .unset, .unset, .unset, .unset, .unset, .unset, .unset, .unset, .unset]) rfl ?_
    exact kt
  rcases own_mask3 p5 with hv16 | hv16 | hv16 | hv16
  · rw [hv16] at pre15
    have pre17 : ∀ t, Steps p.tables e below (s₁.setTop (mkF m 11 #[.val (.long p0), .second, .val (.long p1), .second, iv p2, iv p3, iv p4, iv p5, iv (0 : Int32), .unset, .unset, .unset, .unset, .unset, .unset, .unset, .unset, .unset, .unset, .unset, .unset, .unset, .unset] [])) t → Steps p.tables e below (s₁.setTop (entryFrame m #[(.long p0), (.long p1), (.int p2), (.int p3), (.int p4), (.int p5)] maxLocals)) t := fun t kt => by
      refine pre15 _ ?_
      show Steps p.tables e below (s₁.setTop (mkF m 6 #[.val (.long p0), .second, .val (.long p1), .second, iv p2, iv p3, iv p4, iv p5, iv (0 : Int32), .unset, .unset, .unset, .unset, .unset, .unset, .unset, .unset, .unset, .unset, .unset, .unset, .unset, .unset] [])) _
      refine XS.iload X0.here hx rfl (hb hby at_6) rfl ?_
      show Steps p.tables e below (s₁.setTop (mkF m 8 #[.val (.long p0), .second, .val (.long p1), .second, iv p2, iv p3, iv p4, iv p5, iv (0 : Int32), .unset, .unset, .unset, .unset, .unset, .unset, .unset, .unset, .unset, .unset, .unset, .unset, .unset, .unset] [(.int (0 : Int32))])) _
      refine XS.ifNo X0.here hx rfl (hb hby at_8) rfl (XT.i0_ne_f (by decide)) ?_
      exact kt
    obtain ⟨T18, h18, X18, e18, E18, A18, D18, -, st18⟩ := newO X0 hx hZ hown (W 2 rfl) (W 3 rfl) (W 4 rfl) e0 (g := (mkF m 11 #[.val (.long p0), .second, .val (.long p1), .second, iv p2, iv p3, iv p4, iv p5, iv (0 : Int32), .unset, .unset, .unset, .unset, .unset, .unset, .unset, .unset, .unset, .unset, .unset, .unset, .unset, .unset] [])) rfl (hb hby at_11) (by decide) (by decide)
    obtain ⟨b18, g18⟩ : ∃ z, z = h0.size := ⟨_, rfl⟩
    rw [← g18] at A18 D18 st18
    have pre19 : ∀ t, Steps p.tables e below (T18.setTop (mkF m 14 #[.val (.long p0), .second, .val (.long p1), .second, iv p2, iv p3, iv p4, iv p5, iv (0 : Int32), .unset, .unset, .unset, .unset, .unset, .unset, .unset, .unset, .unset, .unset, .unset, .unset, .unset, .unset] [(.ref b18)])) t → Steps p.tables e below (s₁.setTop (entryFrame m #[(.long p0), (.long p1), (.int p2), (.int p3), (.int p4), (.int p5)] maxLocals)) t := fun t kt => pre17 _ (st18 _ kt)
    have O18 := O0.ext E18
    have K18 : Keep h0 h18 [] := K0.ext E18
    have g_b18 : n0 ≤ b18 := Nat.le_trans (Nat.le_trans (Nat.le_of_eq O0.1.symm) O0.2.1) (Nat.le_of_eq g18.symm)
    have sz_b18 : h0.size ≤ b18 := Nat.le_trans K0.1 (Nat.le_of_eq g18.symm)
    have F20 : Exa Z h18 b18 "com/example/osier/osier/SecondFigures" := A18
    have F21 : Fld Z h18 b18 "com/example/osier/osier/SecondFigures" "startMillis" "J" (.long (0 : Int64)) := D18 (Or.inr (W 12 rfl)) (ty := .long) (by decide)
    have F22 : Fld Z h18 b18 "com/example/osier/osier/SecondFigures" "admitted" "J" (.long (0 : Int64)) := D18 (Or.inr (W 14 rfl)) (ty := .long) (by decide)
    have F23 : Fld Z h18 b18 "com/example/osier/osier/SecondFigures" "refused" "J" (.long (0 : Int64)) := D18 (Or.inr (W 16 rfl)) (ty := .long) (by decide)
    have F24 : Fld Z h18 b18 "com/example/osier/osier/SecondFigures" "completed" "J" (.long (0 : Int64)) := D18 (Or.inr (W 18 rfl)) (ty := .long) (by decide)
    have F25 : Fld Z h18 b18 "com/example/osier/osier/SecondFigures" "errors" "J" (.long (0 : Int64)) := D18 (Or.inr (W 20 rfl)) (ty := .long) (by decide)
    have F26 : Fld Z h18 b18 "com/example/osier/osier/SecondFigures" "responseTimeMillis" "J" (.long (0 : Int64)) := D18 (Or.inr (W 22 rfl)) (ty := .long) (by decide)
    have F27 : Fld Z h18 b18 "com/example/osier/osier/SecondFigures" "inside" "J" (.long (0 : Int64)) := D18 (Or.inr (W 24 rfl)) (ty := .long) (by decide)
    have pre28 : ∀ t, Steps p.tables e below (T18.setTop (mkF m 22 #[.val (.long p0), .second, .val (.long p1), .second, iv p2, iv p3, iv p4, iv p5, iv (0 : Int32), .unset, .unset, .unset, .unset, .unset, .unset, .unset, .unset, .unset, .unset, .unset, .unset, .unset, .unset] [(.long p1), (.long p0), (.long p1), (.long (0 : Int64)), (.long p1), (.long p1), (.long p1), (.ref b18), (.ref b18)])) t → Steps p.tables e below (s₁.setTop (entryFrame m #[(.long p0), (.long p1), (.int p2), (.int p3), (.int p4), (.int p5)] maxLocals)) t := fun t kt => by
      refine pre19 _ ?_
      show Steps p.tables e below (T18.setTop (mkF m 14 #[.val (.long p0), .second, .val (.long p1), .second, iv p2, iv p3, iv p4, iv p5, iv (0 : Int32), .unset, .unset, .unset, .unset, .unset, .unset, .unset, .unset, .unset, .unset, .unset, .unset, .unset, .unset] [(.ref b18)])) _
      refine XS.dup X18.here hx rfl (hb hby at_14) rfl rfl ?_
      show Steps p.tables e below (T18.setTop (mkF m 15 #[.val (.long p0), .second, .val (.long p1), .second, iv p2, iv p3, iv p4, iv p5, iv (0 : Int32), .unset, .unset, .unset, .unset, .unset, .unset, .unset, .unset, .unset, .unset, .unset, .unset, .unset, .unset] [(.ref b18), (.ref b18)])) _
      refine XS.lloadN X18.here hx rfl (hb hby at_15) rfl ?_
      show Steps p.tables e below (T18.setTop (mkF m 16 #[.val (.long p0), .second, .val (.long p1), .second, iv p2, iv p3, iv p4, iv p5, iv (0 : Int32), .unset, .unset, .unset, .unset, .unset, .unset, .unset, .unset, .unset, .unset, .unset, .unset, .unset, .unset] [(.long p1), (.ref b18), (.ref b18)])) _
      refine XS.lloadN X18.here hx rfl (hb hby at_16) rfl ?_
      show Steps p.tables e below (T18.setTop (mkF m 17 #[.val (.long p0), .second, .val (.long p1), .second, iv p2, iv p3, iv p4, iv p5, iv (0 : Int32), .unset, .unset, .unset, .unset, .unset, .unset, .unset, .unset, .unset, .unset, .unset, .unset, .unset, .unset] [(.long p1), (.long p1), (.ref b18), (.ref b18)])) _
      refine XS.lloadN X18.here hx rfl (hb hby at_17) rfl ?_
      show Steps p.tables e below (T18.setTop (mkF m 18 #[.val (.long p0), .second, .val (.long p1), .second, iv p2, iv p3, iv p4, iv p5, iv (0 : Int32), .unset, .unset, .unset, .unset, .unset, .unset, .unset, .unset, .unset, .unset, .unset, .unset, .unset, .unset] [(.long p1), (.long p1), (.long p1), (.ref b18), (.ref b18)])) _
      refine XS.lconst X18.here hx rfl (hb hby at_18) ?_
      show Steps p.tables e below (T18.setTop (mkF m 19 #[.val (.long p0), .second, .val (.long p1), .second, iv p2, iv p3, iv p4, iv p5, iv (0 : Int32), .unset, .unset, .unset, .unset, .unset, .unset, .unset, .unset, .unset, .unset, .unset, .unset, .unset, .unset] [(.long (0 : Int64)), (.long p1), (.long p1), (.long p1), (.ref b18), (.ref b18)])) _
      refine XS.lloadN X18.here hx rfl (hb hby at_19) rfl ?_
      show Steps p.tables e below (T18.setTop (mkF m 20 #[.val (.long p0), .second, .val (.long p1), .second, iv p2, iv p3, iv p4, iv p5, iv (0 : Int32), .unset, .unset, .unset, .unset, .unset, .unset, .unset, .unset, .unset, .unset, .unset, .unset, .unset, .unset] [(.long p1), (.long (0 : Int64)), (.long p1), (.long p1), (.long p1), (.ref b18), (.ref b18)])) _
      refine XS.lloadN X18.here hx rfl (hb hby at_20) rfl ?_
      show Steps p.tables e below (T18.setTop (mkF m 21 #[.val (.long p0), .second, .val (.long p1), .second, iv p2, iv p3, iv p4, iv p5, iv (0 : Int32), .unset, .unset, .unset, .unset, .unset, .unset, .unset, .unset, .unset, .unset, .unset, .unset, .unset, .unset] [(.long p0), (.long p1), (.long (0 : Int64)), (.long p1), (.long p1), (.long p1), (.ref b18), (.ref b18)])) _
      refine XS.lloadN X18.here hx rfl (hb hby at_21) rfl ?_
      exact kt
    obtain ⟨_, _, ⟨T29, L29, k29, n29⟩, -, X29, ⟨Lc29, hQ29, l29, y29, z29⟩, st29⟩ := X18.specialBack hx (y := (⟨"com/example/osier/osier/SecondFigures", "<init>", "(JJJJJJJ)V"⟩ : MethodName)) rfl hown (mvT hZ (W 5 rfl)) (mvT hZ (W 6 rfl)) (mvT hZ (W 7 rfl)) (by decide) (backOf (W := 1) (rm_init1_0 l Z a0 hw [] b18 p1 p0 h18 n0 O18 g_b18 F20 F21 F22 F23 F24 F25 F26 F27) hZ (W 7 rfl) (W 4 rfl) (by decide) (by decide)) (g := (mkF m 22 #[.val (.long p0), .second, .val (.long p1), .second, iv p2, iv p3, iv p4, iv p5, iv (0 : Int32), .unset, .unset, .unset, .unset, .unset, .unset, .unset, .unset, .unset, .unset, .unset, .unset, .unset, .unset] [(.long p1), (.long p0), (.long p1), (.long (0 : Int64)), (.long p1), (.long p1), (.long p1), (.ref b18), (.ref b18)])) rfl (by rw [hml]; rfl) (Steps.refl _) (a := b18) (argsL := [(.long p1), (.long p1), (.long p1), (.long (0 : Int64)), (.long p1), (.long p0), (.long p1)]) (rest := [(.ref b18)]) (lenOf pd_5 rfl) rfl (by show 2 * 0 + _ ≤ _; exact Nat.le_of_eq rfl) (hb hby at_22) (fun _ _ => ⟨rfl, e18, (by decide : 1 + 0 ≤ _), (by decide : 7 + 0 ≤ _)⟩)
    dsimp only [Pt.U, Pt.locs, Pt.cells, Pt.slots] at X29 l29 y29 z29 st29 hQ29
    replace l29 := l29.symm
    replace y29 : 1 = k29 := y29.symm
    replace z29 : 7 = n29 := z29.symm
    subst l29 y29 z29
    obtain ⟨rfl, M29, Kc29, O29, J29_0, J29_1, J29_2, J29_3, J29_4, J29_5, J29_6, J29_7⟩ := hQ29
    obtain ⟨h29, e29⟩ : ∃ z, T29.heap = z := ⟨_, rfl⟩
    rw [e29] at Kc29 O29 J29_0 J29_1 J29_2 J29_3 J29_4 J29_5 J29_6 J29_7
    have N29 := Fr.app N0 M29
    have K29 : Keep h0 h29 [] := K18.trans Kc29 (own_all1 (Or.inr sz_b18))
    have pre270 : ∀ t, Steps p.tables e below (T29.setTop (mkF m 25 #[.val (.long p0), .second, .val (.long p1), .second, iv p2, iv p3, iv p4, iv p5, iv (0 : Int32), .unset, .unset, .unset, .unset, .unset, .unset, .unset, .unset, .unset, .unset, .unset, .unset, .unset, .unset] [(.ref b18)])) t → Steps p.tables e below (s₁.setTop (entryFrame m #[(.long p0), (.long p1), (.int p2), (.int p3), (.int p4), (.int p5)] maxLocals)) t := fun t kt => pre28 _ (st29.trans kt)
    have pre271 : ∀ t, Steps p.tables e below (T29.setTop (mkF m 29 #[.val (.long p0), .second, .val (.long p1), .second, iv p2, iv p3, iv p4, iv p5, iv (0 : Int32), rv b18, .unset, .unset, .unset, .unset, .unset, .unset, .unset, .unset, .unset, .unset, .unset, .unset, .unset] [(.ref b18)])) t → Steps p.tables e below (s₁.setTop (entryFrame m #[(.long p0), (.long p1), (.int p2), (.int p3), (.int p4), (.int p5)] maxLocals)) t := fun t kt => by
      refine pre270 _ ?_
      show Steps p.tables e below (T29.setTop (mkF m 25 #[.val (.long p0), .second, .val (.long p1), .second, iv p2, iv p3, iv p4, iv p5, iv (0 : Int32), .unset, .unset, .unset, .unset, .unset, .unset, .unset, .unset, .unset, .unset, .unset, .unset, .unset, .unset] [(.ref b18)])) _
      refine XS.astore X29.here hx rfl (hb hby at_25) rfl rfl (l' := #[.val (.long p0), .second, .val (.long p1), .second, iv p2, iv p3, iv p4, iv p5, iv (0 : Int32), rv b18, .unset, .unset, .unset, .unset, .unset, .unset, .unset, .unset, .unset, .unset, .unset, .unset, .unset]) rfl ?_
      show Steps p.tables e below (T29.setTop (mkF m 27 #[.val (.long p0), .second, .val (.long p1), .second, iv p2, iv p3, iv p4, iv p5, iv (0 : Int32), rv b18, .unset, .unset, .unset, .unset, .unset, .unset, .unset, .unset, .unset, .unset, .unset, .unset, .unset] [])) _
      refine XS.aload X29.here hx rfl (hb hby at_27) rfl rfl ?_
      exact kt
    obtain ⟨cq272, kq272, q272a, q272b, q272c⟩ := isOf hZ e29 J29_0
    obtain ⟨_, _, ⟨T272, L272, k272, n272⟩, -, X272, ⟨Lc272, hQ272, l272, y272, z272⟩, st272⟩ := X29.virtualBack hx (y := (⟨"com/example/osier/osier/SecondFigures", "averageResponseTimeMillis", "()D"⟩ : MethodName)) (z := (⟨"com/example/osier/osier/SecondFigures", "averageResponseTimeMillis", "()D"⟩ : MethodName)) hown (mvT hZ (W 25 rfl)) (mvT hZ (W 26 rfl)) (notFace_of_selects (args := #[]) (mvT hZ (W 28 rfl))) (mvT hZ (W 28 rfl)) (mvT hZ (W 27 rfl)) (by decide) (backOf (W := 0) (rm_avg0 l Z a0 hw [] b18 h29 n0 O29 J29_0 J29_4) hZ (W 29 rfl) (W 4 rfl) (by decide) (by decide)) q272a q272c (g := (mkF m 29 #[.val (.long p0), .second, .val (.long p1), .second, iv p2, iv p3, iv p4, iv p5, iv (0 : Int32), rv b18, .unset, .unset, .unset, .unset, .unset, .unset, .unset, .unset, .unset, .unset, .unset, .unset, .unset] [(.ref b18)])) rfl (by rw [hml]; rfl) (Steps.refl _) (argsL := []) (rest := []) (lenOf pd_6 rfl) rfl (by show 2 * 0 + _ ≤ _; exact Nat.le_of_eq rfl) (hb hby at_29) (fun _ _ => ⟨rfl, e29, (by decide : 1 + 0 ≤ _), (by decide : 7 + 0 ≤ _)⟩)
    dsimp only [Pt.U, Pt.locs, Pt.cells, Pt.slots] at X272 l272 y272 z272 st272 hQ272
    replace l272 := l272.symm
    replace y272 : 1 = k272 := y272.symm
    replace z272 : 7 = n272 := z272.symm
    subst l272 y272 z272
    obtain ⟨rfl, M272, e272⟩ := hQ272
    have N272 := Fr.app N29 M272
    have pre273 : ∀ t, Steps p.tables e below (T272.setTop (mkF m 32 #[.val (.long p0), .second, .val (.long p1), .second, iv p2, iv p3, iv p4, iv p5, iv (0 : Int32), rv b18, .unset, .unset, .unset, .unset, .unset, .unset, .unset, .unset, .unset, .unset, .unset, .unset, .unset] [(.double (0 : UInt64))])) t → Steps p.tables e below (s₁.setTop (entryFrame m #[(.long p0), (.long p1), (.int p2), (.int p3), (.int p4), (.int p5)] maxLocals)) t := fun t kt => pre271 _ (st272.trans kt)
    have pre274 : ∀ t, Steps p.tables e below (T272.setTop (mkF m 42 #[.val (.long p0), .second, .val (.long p1), .second, iv p2, iv p3, iv p4, iv p5, iv (0 : Int32), rv b18, .unset, .unset, .unset, .unset, .unset, .unset, .unset, .unset, .unset, .unset, .unset, .unset, .unset] [(.int (1 : Int32))])) t → Steps p.tables e below (s₁.setTop (entryFrame m #[(.long p0), (.long p1), (.int p2), (.int p3), (.int p4), (.int p5)] maxLocals)) t := fun t kt => by
      refine pre273 _ ?_
      show Steps p.tables e below (T272.setTop (mkF m 32 #[.val (.long p0), .second, .val (.long p1), .second, iv p2, iv p3, iv p4, iv p5, iv (0 : Int32), rv b18, .unset, .unset, .unset, .unset, .unset, .unset, .unset, .unset, .unset, .unset, .unset, .unset, .unset] [(.double (0 : UInt64))])) _
      refine XS.dconst0 X272.here hx rfl (hb hby at_32) (v := (0 : UInt64)) rfl ?_
      show Steps p.tables e below (T272.setTop (mkF m 33 #[.val (.long p0), .second, .val (.long p1), .second, iv p2, iv p3, iv p4, iv p5, iv (0 : Int32), rv b18, .unset, .unset, .unset, .unset, .unset, .unset, .unset, .unset, .unset, .unset, .unset, .unset, .unset] [(.double (0 : UInt64)), (.double (0 : UInt64))])) _
      refine XS.dcmpS X272.here hx rfl (hb hby at_33) rfl (v := (0 : Int32)) (dcmpV_self (show (0 : UInt64) &&& 0x7fffffffffffffff ≤ 0x7ff0000000000000 from (by decide)) _) ?_
      show Steps p.tables e below (T272.setTop (mkF m 34 #[.val (.long p0), .second, .val (.long p1), .second, iv p2, iv p3, iv p4, iv p5, iv (0 : Int32), rv b18, .unset, .unset, .unset, .unset, .unset, .unset, .unset, .unset, .unset, .unset, .unset, .unset, .unset] [(.int (0 : Int32))])) _
      refine XS.ifNo X272.here hx rfl (hb hby at_34) rfl (XT.i0_ne_f (by decide)) ?_
      show Steps p.tables e below (T272.setTop (mkF m 37 #[.val (.long p0), .second, .val (.long p1), .second, iv p2, iv p3, iv p4, iv p5, iv (0 : Int32), rv b18, .unset, .unset, .unset, .unset, .unset, .unset, .unset, .unset, .unset, .unset, .unset, .unset, .unset] [])) _
      refine XS.iconst X272.here hx rfl (hb hby at_37) ?_
      show Steps p.tables e below (T272.setTop (mkF m 38 #[.val (.long p0), .second, .val (.long p1), .second, iv p2, iv p3, iv p4, iv p5, iv (0 : Int32), rv b18, .unset, .unset, .unset, .unset, .unset, .unset, .unset, .unset, .unset, .unset, .unset, .unset, .unset] [(.int (1 : Int32))])) _
      refine XS.goto X272.here hx rfl (pc0 := 38) (pc' := 42) rfl (hb hby at_38) (by decide) (by decide) ?_
      exact kt
    obtain ⟨fs, hr, hrun, hended, hW, hsame⟩ := X272.leave (v := some (.int (1 : Int32))) (fun h => by rw [Bd.returns] at h; cases h)
    refine ⟨_, _, pre274 _ (retN X272 hx (t := .boolean) Bd.returns (by simp) (hb hby at_42) hr), hrun, hended, _, _, rfl, ?_, ⟨_, rfl⟩, hW, hsame.mono (by decide) (by decide)⟩
    show Q_law Z p0 p1 p2 p3 p4 p5 h0 n0 _ T272.heap _
    rw [e272]
    exact ⟨rfl, N272⟩
  · rw [hv16] at pre15
    have pre275 : ∀ t, Steps p.tables e below (s₁.setTop (mkF m 49 #[.val (.long p0), .second, .val (.long p1), .second, iv p2, iv p3, iv p4, iv p5, iv (1 : Int32), .unset, .unset, .unset, .unset, .unset, .unset, .unset, .unset, .unset, .unset, .unset, .unset, .unset, .unset] [])) t → Steps p.tables e below (s₁.setTop (entryFrame m #[(.long p0), (.long p1), (.int p2), (.int p3), (.int p4), (.int p5)] maxLocals)) t := fun t kt => by
      refine pre15 _ ?_
      show Steps p.tables e below (s₁.setTop (mkF m 6 #[.val (.long p0), .second, .val (.long p1), .second, iv p2, iv p3, iv p4, iv p5, iv (1 : Int32), .unset, .unset, .unset, .unset, .unset, .unset, .unset, .unset, .unset, .unset, .unset, .unset, .unset, .unset] [])) _
      refine XS.iload X0.here hx rfl (hb hby at_6) rfl ?_
      show Steps p.tables e below (s₁.setTop (mkF m 8 #[.val (.long p0), .second, .val (.long p1), .second, iv p2, iv p3, iv p4, iv p5, iv (1 : Int32), .unset, .unset, .unset, .unset, .unset, .unset, .unset, .unset, .unset, .unset, .unset, .unset, .unset, .unset] [(.int (1 : Int32))])) _
      refine XS.ifYes X0.here hx rfl (pc0 := 8) (pc' := 43) rfl (hb hby at_8) rfl (XT.i0_ne_t (by decide)) (by decide) (by decide) ?_
      show Steps p.tables e below (s₁.setTop (mkF m 43 #[.val (.long p0), .second, .val (.long p1), .second, iv p2, iv p3, iv p4, iv p5, iv (1 : Int32), .unset, .unset, .unset, .unset, .unset, .unset, .unset, .unset, .unset, .unset, .unset, .unset, .unset, .unset] [])) _
      refine XS.iload X0.here hx rfl (hb hby at_43) rfl ?_
      show Steps p.tables e below (s₁.setTop (mkF m 45 #[.val (.long p0), .second, .val (.long p1), .second, iv p2, iv p3, iv p4, iv p5, iv (1 : Int32), .unset, .unset, .unset, .unset, .unset, .unset, .unset, .unset, .unset, .unset, .unset, .unset, .unset, .unset] [(.int (1 : Int32))])) _
      refine XS.iconst X0.here hx rfl (hb hby at_45) ?_
      show Steps p.tables e below (s₁.setTop (mkF m 46 #[.val (.long p0), .second, .val (.long p1), .second, iv p2, iv p3, iv p4, iv p5, iv (1 : Int32), .unset, .unset, .unset, .unset, .unset, .unset, .unset, .unset, .unset, .unset, .unset, .unset, .unset, .unset] [(.int (1 : Int32)), (.int (1 : Int32))])) _
      refine XS.icmpNo X0.here hx rfl (hb hby at_46) rfl (XT.ii_ne_f (by decide)) ?_
      exact kt
    obtain ⟨T276, h276, X276, e276, E276, A276, D276, -, st276⟩ := newO X0 hx hZ hown (W 2 rfl) (W 3 rfl) (W 4 rfl) e0 (g := (mkF m 49 #[.val (.long p0), .second, .val (.long p1), .second, iv p2, iv p3, iv p4, iv p5, iv (1 : Int32), .unset, .unset, .unset, .unset, .unset, .unset, .unset, .unset, .unset, .unset, .unset, .unset, .unset, .unset] [])) rfl (hb hby at_49) (by decide) (by decide)
    obtain ⟨b276, g276⟩ : ∃ z, z = h0.size := ⟨_, rfl⟩
    rw [← g276] at A276 D276 st276
    have pre277 : ∀ t, Steps p.tables e below (T276.setTop (mkF m 52 #[.val (.long p0), .second, .val (.long p1), .second, iv p2, iv p3, iv p4, iv p5, iv (1 : Int32), .unset, .unset, .unset, .unset, .unset, .unset, .unset, .unset, .unset, .unset, .unset, .unset, .unset, .unset] [(.ref b276)])) t → Steps p.tables e below (s₁.setTop (entryFrame m #[(.long p0), (.long p1), (.int p2), (.int p3), (.int p4), (.int p5)] maxLocals)) t := fun t kt => pre275 _ (st276 _ kt)
    have O276 := O0.ext E276
    have K276 : Keep h0 h276 [] := K0.ext E276
    have g_b276 : n0 ≤ b276 := Nat.le_trans (Nat.le_trans (Nat.le_of_eq O0.1.symm) O0.2.1) (Nat.le_of_eq g276.symm)
    have sz_b276 : h0.size ≤ b276 := Nat.le_trans K0.1 (Nat.le_of_eq g276.symm)
    have F278 : Exa Z h276 b276 "com/example/osier/osier/SecondFigures" := A276
    have F279 : Fld Z h276 b276 "com/example/osier/osier/SecondFigures" "startMillis" "J" (.long (0 : Int64)) := D276 (Or.inr (W 12 rfl)) (ty := .long) (by decide)
    have F280 : Fld Z h276 b276 "com/example/osier/osier/SecondFigures" "admitted" "J" (.long (0 : Int64)) := D276 (Or.inr (W 14 rfl)) (ty := .long) (by decide)
    have F281 : Fld Z h276 b276 "com/example/osier/osier/SecondFigures" "refused" "J" (.long (0 : Int64)) := D276 (Or.inr (W 16 rfl)) (ty := .long) (by decide)
    have F282 : Fld Z h276 b276 "com/example/osier/osier/SecondFigures" "completed" "J" (.long (0 : Int64)) := D276 (Or.inr (W 18 rfl)) (ty := .long) (by decide)
    have F283 : Fld Z h276 b276 "com/example/osier/osier/SecondFigures" "errors" "J" (.long (0 : Int64)) := D276 (Or.inr (W 20 rfl)) (ty := .long) (by decide)
    have F284 : Fld Z h276 b276 "com/example/osier/osier/SecondFigures" "responseTimeMillis" "J" (.long (0 : Int64)) := D276 (Or.inr (W 22 rfl)) (ty := .long) (by decide)
    have F285 : Fld Z h276 b276 "com/example/osier/osier/SecondFigures" "inside" "J" (.long (0 : Int64)) := D276 (Or.inr (W 24 rfl)) (ty := .long) (by decide)
    have pre286 : ∀ t, Steps p.tables e below (T276.setTop (mkF m 60 #[.val (.long p0), .second, .val (.long p1), .second, iv p2, iv p3, iv p4, iv p5, iv (1 : Int32), .unset, .unset, .unset, .unset, .unset, .unset, .unset, .unset, .unset, .unset, .unset, .unset, .unset, .unset] [(.long p1), (.long p0), (.long p1), (.long (1 : Int64)), (.long p1), (.long p1), (.long p1), (.ref b276), (.ref b276)])) t → Steps p.tables e below (s₁.setTop (entryFrame m #[(.long p0), (.long p1), (.int p2), (.int p3), (.int p4), (.int p5)] maxLocals)) t := fun t kt => by
      refine pre277 _ ?_
      show Steps p.tables e below (T276.setTop (mkF m 52 #[.val (.long p0), .second, .val (.long p1), .second, iv p2, iv p3, iv p4, iv p5, iv (1 : Int32), .unset, .unset, .unset, .unset, .unset, .unset, .unset, .unset, .unset, .unset, .unset, .unset, .unset, .unset] [(.ref b276)])) _
      refine XS.dup X276.here hx rfl (hb hby at_52) rfl rfl ?_
      show Steps p.tables e below (T276.setTop (mkF m 53 #[.val (.long p0), .second, .val (.long p1), .second, iv p2, iv p3, iv p4, iv p5, iv (1 : Int32), .unset, .unset, .unset, .unset, .unset, .unset, .unset, .unset, .unset, .unset, .unset, .unset, .unset, .unset] [(.ref b276), (.ref b276)])) _
      refine XS.lloadN X276.here hx rfl (hb hby at_53) rfl ?_
      show Steps p.tables e below (T276.setTop (mkF m 54 #[.val (.long p0), .second, .val (.long p1), .second, iv p2, iv p3, iv p4, iv p5, iv (1 : Int32), .unset, .unset, .unset, .unset, .unset, .unset, .unset, .unset, .unset, .unset, .unset, .unset, .unset, .unset] [(.long p1), (.ref b276), (.ref b276)])) _
      refine XS.lloadN X276.here hx rfl (hb hby at_54) rfl ?_
      show Steps p.tables e below (T276.setTop (mkF m 55 #[.val (.long p0), .second, .val (.long p1), .second, iv p2, iv p3, iv p4, iv p5, iv (1 : Int32), .unset, .unset, .unset, .unset, .unset, .unset, .unset, .unset, .unset, .unset, .unset, .unset, .unset, .unset] [(.long p1), (.long p1), (.ref b276), (.ref b276)])) _
      refine XS.lloadN X276.here hx rfl (hb hby at_55) rfl ?_
      show Steps p.tables e below (T276.setTop (mkF m 56 #[.val (.long p0), .second, .val (.long p1), .second, iv p2, iv p3, iv p4, iv p5, iv (1 : Int32), .unset, .unset, .unset, .unset, .unset, .unset, .unset, .unset, .unset, .unset, .unset, .unset, .unset, .unset] [(.long p1), (.long p1), (.long p1), (.ref b276), (.ref b276)])) _
      refine XS.lconst X276.here hx rfl (hb hby at_56) ?_
      show Steps p.tables e below (T276.setTop (mkF m 57 #[.val (.long p0), .second, .val (.long p1), .second, iv p2, iv p3, iv p4, iv p5, iv (1 : Int32), .unset, .unset, .unset, .unset, .unset, .unset, .unset, .unset, .unset, .unset, .unset, .unset, .unset, .unset] [(.long (1 : Int64)), (.long p1), (.long p1), (.long p1), (.ref b276), (.ref b276)])) _
      refine XS.lloadN X276.here hx rfl (hb hby at_57) rfl ?_
      show Steps p.tables e below (T276.setTop (mkF m 58 #[.val (.long p0), .second, .val (.long p1), .second, iv p2, iv p3, iv p4, iv p5, iv (1 : Int32), .unset, .unset, .unset, .unset, .unset, .unset, .unset, .unset, .unset, .unset, .unset, .unset, .unset, .unset] [(.long p1), (.long (1 : Int64)), (.long p1), (.long p1), (.long p1), (.ref b276), (.ref b276)])) _
      refine XS.lloadN X276.here hx rfl (hb hby at_58) rfl ?_
      show Steps p.tables e below (T276.setTop (mkF m 59 #[.val (.long p0), .second, .val (.long p1), .second, iv p2, iv p3, iv p4, iv p5, iv (1 : Int32), .unset, .unset, .unset, .unset, .unset, .unset, .unset, .unset, .unset, .unset, .unset, .unset, .unset, .unset] [(.long p0), (.long p1), (.long (1 : Int64)), (.long p1), (.long p1), (.long p1), (.ref b276), (.ref b276)])) _
      refine XS.lloadN X276.here hx rfl (hb hby at_59) rfl ?_
      exact kt
    obtain ⟨_, _, ⟨T287, L287, k287, n287⟩, -, X287, ⟨Lc287, hQ287, l287, y287, z287⟩, st287⟩ := X276.specialBack hx (y := (⟨"com/example/osier/osier/SecondFigures", "<init>", "(JJJJJJJ)V"⟩ : MethodName)) rfl hown (mvT hZ (W 5 rfl)) (mvT hZ (W 6 rfl)) (mvT hZ (W 7 rfl)) (by decide) (backOf (W := 1) (rm_init1_1 l Z a0 hw [] b276 p1 p0 h276 n0 O276 g_b276 F278 F279 F280 F281 F282 F283 F284 F285) hZ (W 7 rfl) (W 4 rfl) (by decide) (by decide)) (g := (mkF m 60 #[.val (.long p0), .second, .val (.long p1), .second, iv p2, iv p3, iv p4, iv p5, iv (1 : Int32), .unset, .unset, .unset, .unset, .unset, .unset, .unset, .unset, .unset, .unset, .unset, .unset, .unset, .unset] [(.long p1), (.long p0), (.long p1), (.long (1 : Int64)), (.long p1), (.long p1), (.long p1), (.ref b276), (.ref b276)])) rfl (by rw [hml]; rfl) (Steps.refl _) (a := b276) (argsL := [(.long p1), (.long p1), (.long p1), (.long (1 : Int64)), (.long p1), (.long p0), (.long p1)]) (rest := [(.ref b276)]) (lenOf pd_5 rfl) rfl (by show 2 * 0 + _ ≤ _; exact Nat.le_of_eq rfl) (hb hby at_60) (fun _ _ => ⟨rfl, e276, (by decide : 1 + 0 ≤ _), (by decide : 7 + 0 ≤ _)⟩)
    dsimp only [Pt.U, Pt.locs, Pt.cells, Pt.slots] at X287 l287 y287 z287 st287 hQ287
    replace l287 := l287.symm
    replace y287 : 1 = k287 := y287.symm
    replace z287 : 7 = n287 := z287.symm
    subst l287 y287 z287
    obtain ⟨rfl, M287, Kc287, O287, J287_0, J287_1, J287_2, J287_3, J287_4, J287_5, J287_6, J287_7⟩ := hQ287
    obtain ⟨h287, e287⟩ : ∃ z, T287.heap = z := ⟨_, rfl⟩
    rw [e287] at Kc287 O287 J287_0 J287_1 J287_2 J287_3 J287_4 J287_5 J287_6 J287_7
    have N287 := Fr.app N0 M287
    have K287 : Keep h0 h287 [] := K276.trans Kc287 (own_all1 (Or.inr sz_b276))
    have pre528 : ∀ t, Steps p.tables e below (T287.setTop (mkF m 63 #[.val (.long p0), .second, .val (.long p1), .second, iv p2, iv p3, iv p4, iv p5, iv (1 : Int32), .unset, .unset, .unset, .unset, .unset, .unset, .unset, .unset, .unset, .unset, .unset, .unset, .unset, .unset] [(.ref b276)])) t → Steps p.tables e below (s₁.setTop (entryFrame m #[(.long p0), (.long p1), (.int p2), (.int p3), (.int p4), (.int p5)] maxLocals)) t := fun t kt => pre286 _ (st287.trans kt)
    have pre529 : ∀ t, Steps p.tables e below (T287.setTop (mkF m 67 #[.val (.long p0), .second, .val (.long p1), .second, iv p2, iv p3, iv p4, iv p5, iv (1 : Int32), rv b276, .unset, .unset, .unset, .unset, .unset, .unset, .unset, .unset, .unset, .unset, .unset, .unset, .unset] [(.ref b276)])) t → Steps p.tables e below (s₁.setTop (entryFrame m #[(.long p0), (.long p1), (.int p2), (.int p3), (.int p4), (.int p5)] maxLocals)) t := fun t kt => by
      refine pre528 _ ?_
      show Steps p.tables e below (T287.setTop (mkF m 63 #[.val (.long p0), .second, .val (.long p1), .second, iv p2, iv p3, iv p4, iv p5, iv (1 : Int32), .unset, .unset, .unset, .unset, .unset, .unset, .unset, .unset, .unset, .unset, .unset, .unset, .unset, .unset] [(.ref b276)])) _
      refine XS.astore X287.here hx rfl (hb hby at_63) rfl rfl (l' := #[.val (.long p0), .second, .val (.long p1), .second, iv p2, iv p3, iv p4, iv p5, iv (1 : Int32), rv b276, .unset, .unset, .unset, .unset, .unset, .unset, .unset, .unset, .unset, .unset, .unset, .unset, .unset]) rfl ?_
      show Steps p.tables e below (T287.setTop (mkF m 65 #[.val (.long p0), .second, .val (.long p1), .second, iv p2, iv p3, iv p4, iv p5, iv (1 : Int32), rv b276, .unset, .unset, .unset, .unset, .unset, .unset, .unset, .unset, .unset, .unset, .unset, .unset, .unset] [])) _
      refine XS.aload X287.here hx rfl (hb hby at_65) rfl rfl ?_
      exact kt
    obtain ⟨cq530, kq530, q530a, q530b, q530c⟩ := isOf hZ e287 J287_0
    obtain ⟨_, _, ⟨T530, L530, k530, n530⟩, -, X530, ⟨Lc530, hQ530, l530, y530, z530⟩, st530⟩ := X287.virtualBack hx (y := (⟨"com/example/osier/osier/SecondFigures", "averageResponseTimeMillis", "()D"⟩ : MethodName)) (z := (⟨"com/example/osier/osier/SecondFigures", "averageResponseTimeMillis", "()D"⟩ : MethodName)) hown (mvT hZ (W 25 rfl)) (mvT hZ (W 26 rfl)) (notFace_of_selects (args := #[]) (mvT hZ (W 28 rfl))) (mvT hZ (W 28 rfl)) (mvT hZ (W 27 rfl)) (by decide) (backOf (W := 0) (rm_avg1 l Z a0 hw [] b276 ((1 : Int64)) p0 h287 n0 O287 J287_0 J287_4 J287_6 (by decide)) hZ (W 29 rfl) (W 4 rfl) (by decide) (by decide)) q530a q530c (g := (mkF m 67 #[.val (.long p0), .second, .val (.long p1), .second, iv p2, iv p3, iv p4, iv p5, iv (1 : Int32), rv b276, .unset, .unset, .unset, .unset, .unset, .unset, .unset, .unset, .unset, .unset, .unset, .unset, .unset] [(.ref b276)])) rfl (by rw [hml]; rfl) (Steps.refl _) (argsL := []) (rest := []) (lenOf pd_6 rfl) rfl (by show 2 * 0 + _ ≤ _; exact Nat.le_of_eq rfl) (hb hby at_67) (fun _ _ => ⟨rfl, e287, (by decide : 1 + 0 ≤ _), (by decide : 7 + 0 ≤ _)⟩)
    dsimp only [Pt.U, Pt.locs, Pt.cells, Pt.slots] at X530 l530 y530 z530 st530 hQ530
    replace l530 := l530.symm
    replace y530 : 1 = k530 := y530.symm
    replace z530 : 7 = n530 := z530.symm
    subst l530 y530 z530
    obtain ⟨rfl, M530, e530⟩ := hQ530
    have N530 := Fr.app N287 M530
    have pre531 : ∀ t, Steps p.tables e below (T530.setTop (mkF m 70 #[.val (.long p0), .second, .val (.long p1), .second, iv p2, iv p3, iv p4, iv p5, iv (1 : Int32), rv b276, .unset, .unset, .unset, .unset, .unset, .unset, .unset, .unset, .unset, .unset, .unset, .unset, .unset] [(.double (FP.ddiv (FP.l2d p0) (FP.l2d (1 : Int64))))])) t → Steps p.tables e below (s₁.setTop (entryFrame m #[(.long p0), (.long p1), (.int p2), (.int p3), (.int p4), (.int p5)] maxLocals)) t := fun t kt => pre529 _ (st530.trans kt)
    have pre532 : ∀ t, Steps p.tables e below (T530.setTop (mkF m 81 #[.val (.long p0), .second, .val (.long p1), .second, iv p2, iv p3, iv p4, iv p5, iv (1 : Int32), rv b276, .unset, .unset, .unset, .unset, .unset, .unset, .unset, .unset, .unset, .unset, .unset, .unset, .unset] [(.int (1 : Int32))])) t → Steps p.tables e below (s₁.setTop (entryFrame m #[(.long p0), (.long p1), (.int p2), (.int p3), (.int p4), (.int p5)] maxLocals)) t := fun t kt => by
      refine pre531 _ ?_
      show Steps p.tables e below (T530.setTop (mkF m 70 #[.val (.long p0), .second, .val (.long p1), .second, iv p2, iv p3, iv p4, iv p5, iv (1 : Int32), rv b276, .unset, .unset, .unset, .unset, .unset, .unset, .unset, .unset, .unset, .unset, .unset, .unset, .unset] [(.double (FP.ddiv (FP.l2d p0) (FP.l2d (1 : Int64))))])) _
      refine XS.lloadN X530.here hx rfl (hb hby at_70) rfl ?_
      show Steps p.tables e below (T530.setTop (mkF m 71 #[.val (.long p0), .second, .val (.long p1), .second, iv p2, iv p3, iv p4, iv p5, iv (1 : Int32), rv b276, .unset, .unset, .unset, .unset, .unset, .unset, .unset, .unset, .unset, .unset, .unset, .unset, .unset] [(.long p0), (.double (FP.ddiv (FP.l2d p0) (FP.l2d (1 : Int64))))])) _
      refine XS.l2dS X530.here hx rfl (hb hby at_71) rfl rfl ?_
      show Steps p.tables e below (T530.setTop (mkF m 72 #[.val (.long p0), .second, .val (.long p1), .second, iv p2, iv p3, iv p4, iv p5, iv (1 : Int32), rv b276, .unset, .unset, .unset, .unset, .unset, .unset, .unset, .unset, .unset, .unset, .unset, .unset, .unset] [(.double (FP.l2d p0)), (.double (FP.ddiv (FP.l2d p0) (FP.l2d (1 : Int64))))])) _
      refine XS.dcmpS X530.here hx rfl (hb hby at_72) rfl (v := (0 : Int32)) (own_d1 _ _) ?_
      show Steps p.tables e below (T530.setTop (mkF m 73 #[.val (.long p0), .second, .val (.long p1), .second, iv p2, iv p3, iv p4, iv p5, iv (1 : Int32), rv b276, .unset, .unset, .unset, .unset, .unset, .unset, .unset, .unset, .unset, .unset, .unset, .unset, .unset] [(.int (0 : Int32))])) _
      refine XS.ifNo X530.here hx rfl (hb hby at_73) rfl (XT.i0_ne_f (by decide)) ?_
      show Steps p.tables e below (T530.setTop (mkF m 76 #[.val (.long p0), .second, .val (.long p1), .second, iv p2, iv p3, iv p4, iv p5, iv (1 : Int32), rv b276, .unset, .unset, .unset, .unset, .unset, .unset, .unset, .unset, .unset, .unset, .unset, .unset, .unset] [])) _
      refine XS.iconst X530.here hx rfl (hb hby at_76) ?_
      show Steps p.tables e below (T530.setTop (mkF m 77 #[.val (.long p0), .second, .val (.long p1), .second, iv p2, iv p3, iv p4, iv p5, iv (1 : Int32), rv b276, .unset, .unset, .unset, .unset, .unset, .unset, .unset, .unset, .unset, .unset, .unset, .unset, .unset] [(.int (1 : Int32))])) _
      refine XS.goto X530.here hx rfl (pc0 := 77) (pc' := 81) rfl (hb hby at_77) (by decide) (by decide) ?_
      exact kt
    obtain ⟨fs, hr, hrun, hended, hW, hsame⟩ := X530.leave (v := some (.int (1 : Int32))) (fun h => by rw [Bd.returns] at h; cases h)
    refine ⟨_, _, pre532 _ (retN X530 hx (t := .boolean) Bd.returns (by simp) (hb hby at_81) hr), hrun, hended, _, _, rfl, ?_, ⟨_, rfl⟩, hW, hsame.mono (by decide) (by decide)⟩
    show Q_law Z p0 p1 p2 p3 p4 p5 h0 n0 _ T530.heap _
    rw [e530]
    exact ⟨rfl, N530⟩
  · rw [hv16] at pre15
    have pre533 : ∀ t, Steps p.tables e below (s₁.setTop (mkF m 91 #[.val (.long p0), .second, .val (.long p1), .second, iv p2, iv p3, iv p4, iv p5, iv (2 : Int32), iv ((p2 &&& (1048575 : Int32)) + (1 : Int32)), .unset, .unset, .unset, .unset, .unset, .unset, .unset, .unset, .unset, .unset, .unset, .unset, .unset] [])) t → Steps p.tables e below (s₁.setTop (entryFrame m #[(.long p0), (.long p1), (.int p2), (.int p3), (.int p4), (.int p5)] maxLocals)) t := fun t kt => by
      refine pre15 _ ?_
      show Steps p.tables e below (s₁.setTop (mkF m 6 #[.val (.long p0), .second, .val (.long p1), .second, iv p2, iv p3, iv p4, iv p5, iv (2 : Int32), .unset, .unset, .unset, .unset, .unset, .unset, .unset, .unset, .unset, .unset, .unset, .unset, .unset, .unset] [])) _
      refine XS.iload X0.here hx rfl (hb hby at_6) rfl ?_
      show Steps p.tables e below (s₁.setTop (mkF m 8 #[.val (.long p0), .second, .val (.long p1), .second, iv p2, iv p3, iv p4, iv p5, iv (2 : Int32), .unset, .unset, .unset, .unset, .unset, .unset, .unset, .unset, .unset, .unset, .unset, .unset, .unset, .unset] [(.int (2 : Int32))])) _
      refine XS.ifYes X0.here hx rfl (pc0 := 8) (pc' := 43) rfl (hb hby at_8) rfl (XT.i0_ne_t (by decide)) (by decide) (by decide) ?_
      show Steps p.tables e below (s₁.setTop (mkF m 43 #[.val (.long p0), .second, .val (.long p1), .second, iv p2, iv p3, iv p4, iv p5, iv (2 : Int32), .unset, .unset, .unset, .unset, .unset, .unset, .unset, .unset, .unset, .unset, .unset, .unset, .unset, .unset] [])) _
      refine XS.iload X0.here hx rfl (hb hby at_43) rfl ?_
      show Steps p.tables e below (s₁.setTop (mkF m 45 #[.val (.long p0), .second, .val (.long p1), .second, iv p2, iv p3, iv p4, iv p5, iv (2 : Int32), .unset, .unset, .unset, .unset, .unset, .unset, .unset, .unset, .unset, .unset, .unset, .unset, .unset, .unset] [(.int (2 : Int32))])) _
      refine XS.iconst X0.here hx rfl (hb hby at_45) ?_
      show Steps p.tables e below (s₁.setTop (mkF m 46 #[.val (.long p0), .second, .val (.long p1), .second, iv p2, iv p3, iv p4, iv p5, iv (2 : Int32), .unset, .unset, .unset, .unset, .unset, .unset, .unset, .unset, .unset, .unset, .unset, .unset, .unset, .unset] [(.int (1 : Int32)), (.int (2 : Int32))])) _
      refine XS.icmpYes X0.here hx rfl (pc0 := 46) (pc' := 82) rfl (hb hby at_46) rfl (XT.ii_ne_t (by decide)) (by decide) (by decide) ?_
      show Steps p.tables e below (s₁.setTop (mkF m 82 #[.val (.long p0), .second, .val (.long p1), .second, iv p2, iv p3, iv p4, iv p5, iv (2 : Int32), .unset, .unset, .unset, .unset, .unset, .unset, .unset, .unset, .unset, .unset, .unset, .unset, .unset, .unset] [])) _
      refine XS.iload X0.here hx rfl (hb hby at_82) rfl ?_
      show Steps p.tables e below (s₁.setTop (mkF m 84 #[.val (.long p0), .second, .val (.long p1), .second, iv p2, iv p3, iv p4, iv p5, iv (2 : Int32), .unset, .unset, .unset, .unset, .unset, .unset, .unset, .unset, .unset, .unset, .unset, .unset, .unset, .unset] [(.int p2)])) _
      refine X0.ldcInt hx hown (mvT hZ (W 0 rfl)) (g := (mkF m 84 #[.val (.long p0), .second, .val (.long p1), .second, iv p2, iv p3, iv p4, iv p5, iv (2 : Int32), .unset, .unset, .unset, .unset, .unset, .unset, .unset, .unset, .unset, .unset, .unset, .unset, .unset, .unset] [(.int p2)])) rfl (hb hby at_84) _ ?_
      show Steps p.tables e below (s₁.setTop (mkF m 86 #[.val (.long p0), .second, .val (.long p1), .second, iv p2, iv p3, iv p4, iv p5, iv (2 : Int32), .unset, .unset, .unset, .unset, .unset, .unset, .unset, .unset, .unset, .unset, .unset, .unset, .unset, .unset] [(.int (1048575 : Int32)), (.int p2)])) _
      refine XS.iand X0.here hx rfl (hb hby at_86) rfl ?_
      show Steps p.tables e below (s₁.setTop (mkF m 87 #[.val (.long p0), .second, .val (.long p1), .second, iv p2, iv p3, iv p4, iv p5, iv (2 : Int32), .unset, .unset, .unset, .unset, .unset, .unset, .unset, .unset, .unset, .unset, .unset, .unset, .unset, .unset] [(.int (p2 &&& (1048575 : Int32)))])) _
      refine XS.iconst X0.here hx rfl (hb hby at_87) ?_
      show Steps p.tables e below (s₁.setTop (mkF m 88 #[.val (.long p0), .second, .val (.long p1), .second, iv p2, iv p3, iv p4, iv p5, iv (2 : Int32), .unset, .unset, .unset, .unset, .unset, .unset, .unset, .unset, .unset, .unset, .unset, .unset, .unset, .unset] [(.int (1 : Int32)), (.int (p2 &&& (1048575 : Int32)))])) _
      refine XS.iadd X0.here hx rfl (hb hby at_88) rfl ?_
      show Steps p.tables e below (s₁.setTop (mkF m 89 #[.val (.long p0), .second, .val (.long p1), .second, iv p2, iv p3, iv p4, iv p5, iv (2 : Int32), .unset, .unset, .unset, .unset, .unset, .unset, .unset, .unset, .unset, .unset, .unset, .unset, .unset, .unset] [(.int ((p2 &&& (1048575 : Int32)) + (1 : Int32)))])) _
      refine XS.istore X0.here hx rfl (hb hby at_89) rfl (l' := #[.val (.long p0), .second, .val (.long p1), .second, iv p2, iv p3, iv p4, iv p5, iv (2 : Int32), iv ((p2 &&& (1048575 : Int32)) + (1 : Int32)), .unset, .unset, .unset, .unset, .unset, .unset, .unset, .unset, .unset, .unset, .unset, .unset, .unset]) rfl ?_
      exact kt
    obtain ⟨ci, hci⟩ : ∃ z, z = ((p2 &&& (1048575 : Int32)) + (1 : Int32)) := ⟨_, rfl⟩
    rw [← hci] at pre533
    have hcb : 1 ≤ ci.toInt ∧ ci.toInt ≤ 1048576 := by rw [hci]; exact own_ci p2
    have pre534 : ∀ t, Steps p.tables e below (s₁.setTop (mkF m 104 #[.val (.long p0), .second, .val (.long p1), .second, iv p2, iv p3, iv p4, iv p5, iv (2 : Int32), iv ci, .val (.long (ci.toInt64)), .second, .unset, .unset, .unset, .unset, .unset, .unset, .unset, .unset, .unset, .unset, .unset] [(.int ((p4 &&& (2147483647 : Int32)) - ((p4 &&& (2147483647 : Int32)) / ci) * ci))])) t → Steps p.tables e below (s₁.setTop (entryFrame m #[(.long p0), (.long p1), (.int p2), (.int p3), (.int p4), (.int p5)] maxLocals)) t := fun t kt => by
      refine pre533 _ ?_
      show Steps p.tables e below (s₁.setTop (mkF m 91 #[.val (.long p0), .second, .val (.long p1), .second, iv p2, iv p3, iv p4, iv p5, iv (2 : Int32), iv ci, .unset, .unset, .unset, .unset, .unset, .unset, .unset, .unset, .unset, .unset, .unset, .unset, .unset] [])) _
      refine XS.iload X0.here hx rfl (hb hby at_91) rfl ?_
      show Steps p.tables e below (s₁.setTop (mkF m 93 #[.val (.long p0), .second, .val (.long p1), .second, iv p2, iv p3, iv p4, iv p5, iv (2 : Int32), iv ci, .unset, .unset, .unset, .unset, .unset, .unset, .unset, .unset, .unset, .unset, .unset, .unset, .unset] [(.int ci)])) _
      refine XS.i2l X0.here hx rfl (hb hby at_93) rfl ?_
      show Steps p.tables e below (s₁.setTop (mkF m 94 #[.val (.long p0), .second, .val (.long p1), .second, iv p2, iv p3, iv p4, iv p5, iv (2 : Int32), iv ci, .unset, .unset, .unset, .unset, .unset, .unset, .unset, .unset, .unset, .unset, .unset, .unset, .unset] [(.long (ci.toInt64))])) _
      refine XS.lstore X0.here hx rfl (hb hby at_94) rfl (l' := #[.val (.long p0), .second, .val (.long p1), .second, iv p2, iv p3, iv p4, iv p5, iv (2 : Int32), iv ci, .val (.long (ci.toInt64)), .second, .unset, .unset, .unset, .unset, .unset, .unset, .unset, .unset, .unset, .unset, .unset]) rfl ?_
      show Steps p.tables e below (s₁.setTop (mkF m 96 #[.val (.long p0), .second, .val (.long p1), .second, iv p2, iv p3, iv p4, iv p5, iv (2 : Int32), iv ci, .val (.long (ci.toInt64)), .second, .unset, .unset, .unset, .unset, .unset, .unset, .unset, .unset, .unset, .unset, .unset] [])) _
      refine XS.iload X0.here hx rfl (hb hby at_96) rfl ?_
      show Steps p.tables e below (s₁.setTop (mkF m 98 #[.val (.long p0), .second, .val (.long p1), .second, iv p2, iv p3, iv p4, iv p5, iv (2 : Int32), iv ci, .val (.long (ci.toInt64)), .second, .unset, .unset, .unset, .unset, .unset, .unset, .unset, .unset, .unset, .unset, .unset] [(.int p4)])) _
      refine X0.ldcInt hx hown (mvT hZ (W 1 rfl)) (g := (mkF m 98 #[.val (.long p0), .second, .val (.long p1), .second, iv p2, iv p3, iv p4, iv p5, iv (2 : Int32), iv ci, .val (.long (ci.toInt64)), .second, .unset, .unset, .unset, .unset, .unset, .unset, .unset, .unset, .unset, .unset, .unset] [(.int p4)])) rfl (hb hby at_98) _ ?_
      show Steps p.tables e below (s₁.setTop (mkF m 100 #[.val (.long p0), .second, .val (.long p1), .second, iv p2, iv p3, iv p4, iv p5, iv (2 : Int32), iv ci, .val (.long (ci.toInt64)), .second, .unset, .unset, .unset, .unset, .unset, .unset, .unset, .unset, .unset, .unset, .unset] [(.int (2147483647 : Int32)), (.int p4)])) _
      refine XS.iand X0.here hx rfl (hb hby at_100) rfl ?_
      show Steps p.tables e below (s₁.setTop (mkF m 101 #[.val (.long p0), .second, .val (.long p1), .second, iv p2, iv p3, iv p4, iv p5, iv (2 : Int32), iv ci, .val (.long (ci.toInt64)), .second, .unset, .unset, .unset, .unset, .unset, .unset, .unset, .unset, .unset, .unset, .unset] [(.int (p4 &&& (2147483647 : Int32)))])) _
      refine XS.iload X0.here hx rfl (hb hby at_101) rfl ?_
      show Steps p.tables e below (s₁.setTop (mkF m 103 #[.val (.long p0), .second, .val (.long p1), .second, iv p2, iv p3, iv p4, iv p5, iv (2 : Int32), iv ci, .val (.long (ci.toInt64)), .second, .unset, .unset, .unset, .unset, .unset, .unset, .unset, .unset, .unset, .unset, .unset] [(.int ci), (.int (p4 &&& (2147483647 : Int32)))])) _
      refine XS.irem X0.here hx rfl (hb hby at_103) rfl (own_ci0 hcb.1) ?_
      exact kt
    obtain ⟨rr, hrr⟩ : ∃ z, z = ((p4 &&& (2147483647 : Int32)) - ((p4 &&& (2147483647 : Int32)) / ci) * ci) := ⟨_, rfl⟩
    rw [← hrr] at pre534
    have hrb : 0 ≤ rr.toInt ∧ rr.toInt < ci.toInt := by rw [hrr]; exact own_rm p4 ci hcb.1
    have pre535 : ∀ t, Steps p.tables e below (s₁.setTop (mkF m 134 #[.val (.long p0), .second, .val (.long p1), .second, iv p2, iv p3, iv p4, iv p5, iv (2 : Int32), iv ci, .val (.long (ci.toInt64)), .second, .val (.long (rr.toInt64)), .second, .val (.long (ci.toInt64)), .second, .val (.long (((p3.toInt64) * (ci.toInt64)) + (rr.toInt64))), .second, .unset, .unset, .unset, .unset, .unset] [])) t → Steps p.tables e below (s₁.setTop (entryFrame m #[(.long p0), (.long p1), (.int p2), (.int p3), (.int p4), (.int p5)] maxLocals)) t := fun t kt => by
      refine pre534 _ ?_
      show Steps p.tables e below (s₁.setTop (mkF m 104 #[.val (.long p0), .second, .val (.long p1), .second, iv p2, iv p3, iv p4, iv p5, iv (2 : Int32), iv ci, .val (.long (ci.toInt64)), .second, .unset, .unset, .unset, .unset, .unset, .unset, .unset, .unset, .unset, .unset, .unset] [(.int rr)])) _
      refine XS.i2l X0.here hx rfl (hb hby at_104) rfl ?_
      show Steps p.tables e below (s₁.setTop (mkF m 105 #[.val (.long p0), .second, .val (.long p1), .second, iv p2, iv p3, iv p4, iv p5, iv (2 : Int32), iv ci, .val (.long (ci.toInt64)), .second, .unset, .unset, .unset, .unset, .unset, .unset, .unset, .unset, .unset, .unset, .unset] [(.long (rr.toInt64))])) _
      refine XS.lstore X0.here hx rfl (hb hby at_105) rfl (l' := #[.val (.long p0), .second, .val (.long p1), .second, iv p2, iv p3, iv p4, iv p5, iv (2 : Int32), iv ci, .val (.long (ci.toInt64)), .second, .val (.long (rr.toInt64)), .second, .unset, .unset, .unset, .unset, .unset, .unset, .unset, .unset, .unset]) rfl ?_
      show Steps p.tables e below (s₁.setTop (mkF m 107 #[.val (.long p0), .second, .val (.long p1), .second, iv p2, iv p3, iv p4, iv p5, iv (2 : Int32), iv ci, .val (.long (ci.toInt64)), .second, .val (.long (rr.toInt64)), .second, .unset, .unset, .unset, .unset, .unset, .unset, .unset, .unset, .unset] [])) _
      refine XS.iload X0.here hx rfl (hb hby at_107) rfl ?_
      show Steps p.tables e below (s₁.setTop (mkF m 109 #[.val (.long p0), .second, .val (.long p1), .second, iv p2, iv p3, iv p4, iv p5, iv (2 : Int32), iv ci, .val (.long (ci.toInt64)), .second, .val (.long (rr.toInt64)), .second, .unset, .unset, .unset, .unset, .unset, .unset, .unset, .unset, .unset] [(.int (2 : Int32))])) _
      refine XS.iconst X0.here hx rfl (hb hby at_109) ?_
      show Steps p.tables e below (s₁.setTop (mkF m 110 #[.val (.long p0), .second, .val (.long p1), .second, iv p2, iv p3, iv p4, iv p5, iv (2 : Int32), iv ci, .val (.long (ci.toInt64)), .second, .val (.long (rr.toInt64)), .second, .unset, .unset, .unset, .unset, .unset, .unset, .unset, .unset, .unset] [(.int (3 : Int32)), (.int (2 : Int32))])) _
      refine XS.icmpYes X0.here hx rfl (pc0 := 110) (pc' := 119) rfl (hb hby at_110) rfl (XT.ii_ne_t (by decide)) (by decide) (by decide) ?_
      show Steps p.tables e below (s₁.setTop (mkF m 119 #[.val (.long p0), .second, .val (.long p1), .second, iv p2, iv p3, iv p4, iv p5, iv (2 : Int32), iv ci, .val (.long (ci.toInt64)), .second, .val (.long (rr.toInt64)), .second, .unset, .unset, .unset, .unset, .unset, .unset, .unset, .unset, .unset] [])) _
      refine XS.lload X0.here hx rfl (hb hby at_119) rfl ?_
      show Steps p.tables e below (s₁.setTop (mkF m 121 #[.val (.long p0), .second, .val (.long p1), .second, iv p2, iv p3, iv p4, iv p5, iv (2 : Int32), iv ci, .val (.long (ci.toInt64)), .second, .val (.long (rr.toInt64)), .second, .unset, .unset, .unset, .unset, .unset, .unset, .unset, .unset, .unset] [(.long (ci.toInt64))])) _
      refine XS.lstore X0.here hx rfl (hb hby at_121) rfl (l' := #[.val (.long p0), .second, .val (.long p1), .second, iv p2, iv p3, iv p4, iv p5, iv (2 : Int32), iv ci, .val (.long (ci.toInt64)), .second, .val (.long (rr.toInt64)), .second, .val (.long (ci.toInt64)), .second, .unset, .unset, .unset, .unset, .unset, .unset, .unset]) rfl ?_
      show Steps p.tables e below (s₁.setTop (mkF m 123 #[.val (.long p0), .second, .val (.long p1), .second, iv p2, iv p3, iv p4, iv p5, iv (2 : Int32), iv ci, .val (.long (ci.toInt64)), .second, .val (.long (rr.toInt64)), .second, .val (.long (ci.toInt64)), .second, .unset, .unset, .unset, .unset, .unset, .unset, .unset] [])) _
      refine XS.iload X0.here hx rfl (hb hby at_123) rfl ?_
      show Steps p.tables e below (s₁.setTop (mkF m 125 #[.val (.long p0), .second, .val (.long p1), .second, iv p2, iv p3, iv p4, iv p5, iv (2 : Int32), iv ci, .val (.long (ci.toInt64)), .second, .val (.long (rr.toInt64)), .second, .val (.long (ci.toInt64)), .second, .unset, .unset, .unset, .unset, .unset, .unset, .unset] [(.int p3)])) _
      refine XS.i2l X0.here hx rfl (hb hby at_125) rfl ?_
      show Steps p.tables e below (s₁.setTop (mkF m 126 #[.val (.long p0), .second, .val (.long p1), .second, iv p2, iv p3, iv p4, iv p5, iv (2 : Int32), iv ci, .val (.long (ci.toInt64)), .second, .val (.long (rr.toInt64)), .second, .val (.long (ci.toInt64)), .second, .unset, .unset, .unset, .unset, .unset, .unset, .unset] [(.long (p3.toInt64))])) _
      refine XS.lload X0.here hx rfl (hb hby at_126) rfl ?_
      show Steps p.tables e below (s₁.setTop (mkF m 128 #[.val (.long p0), .second, .val (.long p1), .second, iv p2, iv p3, iv p4, iv p5, iv (2 : Int32), iv ci, .val (.long (ci.toInt64)), .second, .val (.long (rr.toInt64)), .second, .val (.long (ci.toInt64)), .second, .unset, .unset, .unset, .unset, .unset, .unset, .unset] [(.long (ci.toInt64)), (.long (p3.toInt64))])) _
      refine XS.lmul X0.here hx rfl (hb hby at_128) rfl ?_
      show Steps p.tables e below (s₁.setTop (mkF m 129 #[.val (.long p0), .second, .val (.long p1), .second, iv p2, iv p3, iv p4, iv p5, iv (2 : Int32), iv ci, .val (.long (ci.toInt64)), .second, .val (.long (rr.toInt64)), .second, .val (.long (ci.toInt64)), .second, .unset, .unset, .unset, .unset, .unset, .unset, .unset] [(.long ((p3.toInt64) * (ci.toInt64)))])) _
      refine XS.lload X0.here hx rfl (hb hby at_129) rfl ?_
      show Steps p.tables e below (s₁.setTop (mkF m 131 #[.val (.long p0), .second, .val (.long p1), .second, iv p2, iv p3, iv p4, iv p5, iv (2 : Int32), iv ci, .val (.long (ci.toInt64)), .second, .val (.long (rr.toInt64)), .second, .val (.long (ci.toInt64)), .second, .unset, .unset, .unset, .unset, .unset, .unset, .unset] [(.long (rr.toInt64)), (.long ((p3.toInt64) * (ci.toInt64)))])) _
      refine XS.ladd X0.here hx rfl (hb hby at_131) rfl ?_
      show Steps p.tables e below (s₁.setTop (mkF m 132 #[.val (.long p0), .second, .val (.long p1), .second, iv p2, iv p3, iv p4, iv p5, iv (2 : Int32), iv ci, .val (.long (ci.toInt64)), .second, .val (.long (rr.toInt64)), .second, .val (.long (ci.toInt64)), .second, .unset, .unset, .unset, .unset, .unset, .unset, .unset] [(.long (((p3.toInt64) * (ci.toInt64)) + (rr.toInt64)))])) _
      refine XS.lstore X0.here hx rfl (hb hby at_132) rfl (l' := #[.val (.long p0), .second, .val (.long p1), .second, iv p2, iv p3, iv p4, iv p5, iv (2 : Int32), iv ci, .val (.long (ci.toInt64)), .second, .val (.long (rr.toInt64)), .second, .val (.long (ci.toInt64)), .second, .val (.long (((p3.toInt64) * (ci.toInt64)) + (rr.toInt64))), .second, .unset, .unset, .unset, .unset, .unset]) rfl ?_
      exact kt
    obtain ⟨T536, h536, X536, e536, E536, A536, D536, -, st536⟩ := newO X0 hx hZ hown (W 2 rfl) (W 3 rfl) (W 4 rfl) e0 (g := (mkF m 134 #[.val (.long p0), .second, .val (.long p1), .second, iv p2, iv p3, iv p4, iv p5, iv (2 : Int32), iv ci, .val (.long (ci.toInt64)), .second, .val (.long (rr.toInt64)), .second, .val (.long (ci.toInt64)), .second, .val (.long (((p3.toInt64) * (ci.toInt64)) + (rr.toInt64))), .second, .unset, .unset, .unset, .unset, .unset] [])) rfl (hb hby at_134) (by decide) (by decide)
    obtain ⟨b536, g536⟩ : ∃ z, z = h0.size := ⟨_, rfl⟩
    rw [← g536] at A536 D536 st536
    have pre537 : ∀ t, Steps p.tables e below (T536.setTop (mkF m 137 #[.val (.long p0), .second, .val (.long p1), .second, iv p2, iv p3, iv p4, iv p5, iv (2 : Int32), iv ci, .val (.long (ci.toInt64)), .second, .val (.long (rr.toInt64)), .second, .val (.long (ci.toInt64)), .second, .val (.long (((p3.toInt64) * (ci.toInt64)) + (rr.toInt64))), .second, .unset, .unset, .unset, .unset, .unset] [(.ref b536)])) t → Steps p.tables e below (s₁.setTop (entryFrame m #[(.long p0), (.long p1), (.int p2), (.int p3), (.int p4), (.int p5)] maxLocals)) t := fun t kt => pre535 _ (st536 _ kt)
    have O536 := O0.ext E536
    have K536 : Keep h0 h536 [] := K0.ext E536
    have g_b536 : n0 ≤ b536 := Nat.le_trans (Nat.le_trans (Nat.le_of_eq O0.1.symm) O0.2.1) (Nat.le_of_eq g536.symm)
    have sz_b536 : h0.size ≤ b536 := Nat.le_trans K0.1 (Nat.le_of_eq g536.symm)
    have F538 : Exa Z h536 b536 "com/example/osier/osier/SecondFigures" := A536
    have F539 : Fld Z h536 b536 "com/example/osier/osier/SecondFigures" "startMillis" "J" (.long (0 : Int64)) := D536 (Or.inr (W 12 rfl)) (ty := .long) (by decide)
    have F540 : Fld Z h536 b536 "com/example/osier/osier/SecondFigures" "admitted" "J" (.long (0 : Int64)) := D536 (Or.inr (W 14 rfl)) (ty := .long) (by decide)
    have F541 : Fld Z h536 b536 "com/example/osier/osier/SecondFigures" "refused" "J" (.long (0 : Int64)) := D536 (Or.inr (W 16 rfl)) (ty := .long) (by decide)
    have F542 : Fld Z h536 b536 "com/example/osier/osier/SecondFigures" "completed" "J" (.long (0 : Int64)) := D536 (Or.inr (W 18 rfl)) (ty := .long) (by decide)
    have F543 : Fld Z h536 b536 "com/example/osier/osier/SecondFigures" "errors" "J" (.long (0 : Int64)) := D536 (Or.inr (W 20 rfl)) (ty := .long) (by decide)
    have F544 : Fld Z h536 b536 "com/example/osier/osier/SecondFigures" "responseTimeMillis" "J" (.long (0 : Int64)) := D536 (Or.inr (W 22 rfl)) (ty := .long) (by decide)
    have F545 : Fld Z h536 b536 "com/example/osier/osier/SecondFigures" "inside" "J" (.long (0 : Int64)) := D536 (Or.inr (W 24 rfl)) (ty := .long) (by decide)
    have pre546 : ∀ t, Steps p.tables e below (T536.setTop (mkF m 147 #[.val (.long p0), .second, .val (.long p1), .second, iv p2, iv p3, iv p4, iv p5, iv (2 : Int32), iv ci, .val (.long (ci.toInt64)), .second, .val (.long (rr.toInt64)), .second, .val (.long (ci.toInt64)), .second, .val (.long (((p3.toInt64) * (ci.toInt64)) + (rr.toInt64))), .second, .unset, .unset, .unset, .unset, .unset] [(.long p1), (.long (((p3.toInt64) * (ci.toInt64)) + (rr.toInt64))), (.long p1), (.long (ci.toInt64)), (.long p1), (.long p1), (.long p1), (.ref b536), (.ref b536)])) t → Steps p.tables e below (s₁.setTop (entryFrame m #[(.long p0), (.long p1), (.int p2), (.int p3), (.int p4), (.int p5)] maxLocals)) t := fun t kt => by
      refine pre537 _ ?_
      show Steps p.tables e below (T536.setTop (mkF m 137 #[.val (.long p0), .second, .val (.long p1), .second, iv p2, iv p3, iv p4, iv p5, iv (2 : Int32), iv ci, .val (.long (ci.toInt64)), .second, .val (.long (rr.toInt64)), .second, .val (.long (ci.toInt64)), .second, .val (.long (((p3.toInt64) * (ci.toInt64)) + (rr.toInt64))), .second, .unset, .unset, .unset, .unset, .unset] [(.ref b536)])) _
      refine XS.dup X536.here hx rfl (hb hby at_137) rfl rfl ?_
      show Steps p.tables e below (T536.setTop (mkF m 138 #[.val (.long p0), .second, .val (.long p1), .second, iv p2, iv p3, iv p4, iv p5, iv (2 : Int32), iv ci, .val (.long (ci.toInt64)), .second, .val (.long (rr.toInt64)), .second, .val (.long (ci.toInt64)), .second, .val (.long (((p3.toInt64) * (ci.toInt64)) + (rr.toInt64))), .second, .unset, .unset, .unset, .unset, .unset] [(.ref b536), (.ref b536)])) _
      refine XS.lloadN X536.here hx rfl (hb hby at_138) rfl ?_
      show Steps p.tables e below (T536.setTop (mkF m 139 #[.val (.long p0), .second, .val (.long p1), .second, iv p2, iv p3, iv p4, iv p5, iv (2 : Int32), iv ci, .val (.long (ci.toInt64)), .second, .val (.long (rr.toInt64)), .second, .val (.long (ci.toInt64)), .second, .val (.long (((p3.toInt64) * (ci.toInt64)) + (rr.toInt64))), .second, .unset, .unset, .unset, .unset, .unset] [(.long p1), (.ref b536), (.ref b536)])) _
      refine XS.lloadN X536.here hx rfl (hb hby at_139) rfl ?_
      show Steps p.tables e below (T536.setTop (mkF m 140 #[.val (.long p0), .second, .val (.long p1), .second, iv p2, iv p3, iv p4, iv p5, iv (2 : Int32), iv ci, .val (.long (ci.toInt64)), .second, .val (.long (rr.toInt64)), .second, .val (.long (ci.toInt64)), .second, .val (.long (((p3.toInt64) * (ci.toInt64)) + (rr.toInt64))), .second, .unset, .unset, .unset, .unset, .unset] [(.long p1), (.long p1), (.ref b536), (.ref b536)])) _
      refine XS.lloadN X536.here hx rfl (hb hby at_140) rfl ?_
      show Steps p.tables e below (T536.setTop (mkF m 141 #[.val (.long p0), .second, .val (.long p1), .second, iv p2, iv p3, iv p4, iv p5, iv (2 : Int32), iv ci, .val (.long (ci.toInt64)), .second, .val (.long (rr.toInt64)), .second, .val (.long (ci.toInt64)), .second, .val (.long (((p3.toInt64) * (ci.toInt64)) + (rr.toInt64))), .second, .unset, .unset, .unset, .unset, .unset] [(.long p1), (.long p1), (.long p1), (.ref b536), (.ref b536)])) _
      refine XS.lload X536.here hx rfl (hb hby at_141) rfl ?_
      show Steps p.tables e below (T536.setTop (mkF m 143 #[.val (.long p0), .second, .val (.long p1), .second, iv p2, iv p3, iv p4, iv p5, iv (2 : Int32), iv ci, .val (.long (ci.toInt64)), .second, .val (.long (rr.toInt64)), .second, .val (.long (ci.toInt64)), .second, .val (.long (((p3.toInt64) * (ci.toInt64)) + (rr.toInt64))), .second, .unset, .unset, .unset, .unset, .unset] [(.long (ci.toInt64)), (.long p1), (.long p1), (.long p1), (.ref b536), (.ref b536)])) _
      refine XS.lloadN X536.here hx rfl (hb hby at_143) rfl ?_
      show Steps p.tables e below (T536.setTop (mkF m 144 #[.val (.long p0), .second, .val (.long p1), .second, iv p2, iv p3, iv p4, iv p5, iv (2 : Int32), iv ci, .val (.long (ci.toInt64)), .second, .val (.long (rr.toInt64)), .second, .val (.long (ci.toInt64)), .second, .val (.long (((p3.toInt64) * (ci.toInt64)) + (rr.toInt64))), .second, .unset, .unset, .unset, .unset, .unset] [(.long p1), (.long (ci.toInt64)), (.long p1), (.long p1), (.long p1), (.ref b536), (.ref b536)])) _
      refine XS.lload X536.here hx rfl (hb hby at_144) rfl ?_
      show Steps p.tables e below (T536.setTop (mkF m 146 #[.val (.long p0), .second, .val (.long p1), .second, iv p2, iv p3, iv p4, iv p5, iv (2 : Int32), iv ci, .val (.long (ci.toInt64)), .second, .val (.long (rr.toInt64)), .second, .val (.long (ci.toInt64)), .second, .val (.long (((p3.toInt64) * (ci.toInt64)) + (rr.toInt64))), .second, .unset, .unset, .unset, .unset, .unset] [(.long (((p3.toInt64) * (ci.toInt64)) + (rr.toInt64))), (.long p1), (.long (ci.toInt64)), (.long p1), (.long p1), (.long p1), (.ref b536), (.ref b536)])) _
      refine XS.lloadN X536.here hx rfl (hb hby at_146) rfl ?_
      exact kt
    obtain ⟨_, _, ⟨T547, L547, k547, n547⟩, -, X547, ⟨Lc547, hQ547, l547, y547, z547⟩, st547⟩ := X536.specialBack hx (y := (⟨"com/example/osier/osier/SecondFigures", "<init>", "(JJJJJJJ)V"⟩ : MethodName)) rfl hown (mvT hZ (W 5 rfl)) (mvT hZ (W 6 rfl)) (mvT hZ (W 7 rfl)) (by decide) (backOf (W := 1) (rm_init1_2 l Z a0 hw [] b536 p1 (ci.toInt64) ((((p3.toInt64) * (ci.toInt64)) + (rr.toInt64))) h536 n0 O536 g_b536 F538 F539 F540 F541 F542 F543 F544 F545) hZ (W 7 rfl) (W 4 rfl) (by decide) (by decide)) (g := (mkF m 147 #[.val (.long p0), .second, .val (.long p1), .second, iv p2, iv p3, iv p4, iv p5, iv (2 : Int32), iv ci, .val (.long (ci.toInt64)), .second, .val (.long (rr.toInt64)), .second, .val (.long (ci.toInt64)), .second, .val (.long (((p3.toInt64) * (ci.toInt64)) + (rr.toInt64))), .second, .unset, .unset, .unset, .unset, .unset] [(.long p1), (.long (((p3.toInt64) * (ci.toInt64)) + (rr.toInt64))), (.long p1), (.long (ci.toInt64)), (.long p1), (.long p1), (.long p1), (.ref b536), (.ref b536)])) rfl (by rw [hml]; rfl) (Steps.refl _) (a := b536) (argsL := [(.long p1), (.long p1), (.long p1), (.long (ci.toInt64)), (.long p1), (.long (((p3.toInt64) * (ci.toInt64)) + (rr.toInt64))), (.long p1)]) (rest := [(.ref b536)]) (lenOf pd_5 rfl) rfl (by show 2 * 0 + _ ≤ _; exact Nat.le_of_eq rfl) (hb hby at_147) (fun _ _ => ⟨rfl, e536, (by decide : 1 + 0 ≤ _), (by decide : 7 + 0 ≤ _)⟩)
    dsimp only [Pt.U, Pt.locs, Pt.cells, Pt.slots] at X547 l547 y547 z547 st547 hQ547
    replace l547 := l547.symm
    replace y547 : 1 = k547 := y547.symm
    replace z547 : 7 = n547 := z547.symm
    subst l547 y547 z547
    obtain ⟨rfl, M547, Kc547, O547, J547_0, J547_1, J547_2, J547_3, J547_4, J547_5, J547_6, J547_7⟩ := hQ547
    obtain ⟨h547, e547⟩ : ∃ z, T547.heap = z := ⟨_, rfl⟩
    rw [e547] at Kc547 O547 J547_0 J547_1 J547_2 J547_3 J547_4 J547_5 J547_6 J547_7
    have N547 := Fr.app N0 M547
    have K547 : Keep h0 h547 [] := K536.trans Kc547 (own_all1 (Or.inr sz_b536))
    have pre788 : ∀ t, Steps p.tables e below (T547.setTop (mkF m 150 #[.val (.long p0), .second, .val (.long p1), .second, iv p2, iv p3, iv p4, iv p5, iv (2 : Int32), iv ci, .val (.long (ci.toInt64)), .second, .val (.long (rr.toInt64)), .second, .val (.long (ci.toInt64)), .second, .val (.long (((p3.toInt64) * (ci.toInt64)) + (rr.toInt64))), .second, .unset, .unset, .unset, .unset, .unset] [(.ref b536)])) t → Steps p.tables e below (s₁.setTop (entryFrame m #[(.long p0), (.long p1), (.int p2), (.int p3), (.int p4), (.int p5)] maxLocals)) t := fun t kt => pre546 _ (st547.trans kt)
    have pre789 : ∀ t, Steps p.tables e below (T547.setTop (mkF m 154 #[.val (.long p0), .second, .val (.long p1), .second, iv p2, iv p3, iv p4, iv p5, iv (2 : Int32), iv ci, .val (.long (ci.toInt64)), .second, .val (.long (rr.toInt64)), .second, .val (.long (ci.toInt64)), .second, .val (.long (((p3.toInt64) * (ci.toInt64)) + (rr.toInt64))), .second, rv b536, .unset, .unset, .unset, .unset] [(.ref b536)])) t → Steps p.tables e below (s₁.setTop (entryFrame m #[(.long p0), (.long p1), (.int p2), (.int p3), (.int p4), (.int p5)] maxLocals)) t := fun t kt => by
      refine pre788 _ ?_
      show Steps p.tables e below (T547.setTop (mkF m 150 #[.val (.long p0), .second, .val (.long p1), .second, iv p2, iv p3, iv p4, iv p5, iv (2 : Int32), iv ci, .val (.long (ci.toInt64)), .second, .val (.long (rr.toInt64)), .second, .val (.long (ci.toInt64)), .second, .val (.long (((p3.toInt64) * (ci.toInt64)) + (rr.toInt64))), .second, .unset, .unset, .unset, .unset, .unset] [(.ref b536)])) _
      refine XS.astore X547.here hx rfl (hb hby at_150) rfl rfl (l' := #[.val (.long p0), .second, .val (.long p1), .second, iv p2, iv p3, iv p4, iv p5, iv (2 : Int32), iv ci, .val (.long (ci.toInt64)), .second, .val (.long (rr.toInt64)), .second, .val (.long (ci.toInt64)), .second, .val (.long (((p3.toInt64) * (ci.toInt64)) + (rr.toInt64))), .second, rv b536, .unset, .unset, .unset, .unset]) rfl ?_
      show Steps p.tables e below (T547.setTop (mkF m 152 #[.val (.long p0), .second, .val (.long p1), .second, iv p2, iv p3, iv p4, iv p5, iv (2 : Int32), iv ci, .val (.long (ci.toInt64)), .second, .val (.long (rr.toInt64)), .second, .val (.long (ci.toInt64)), .second, .val (.long (((p3.toInt64) * (ci.toInt64)) + (rr.toInt64))), .second, rv b536, .unset, .unset, .unset, .unset] [])) _
      refine XS.aload X547.here hx rfl (hb hby at_152) rfl rfl ?_
      exact kt
    obtain ⟨cq790, kq790, q790a, q790b, q790c⟩ := isOf hZ e547 J547_0
    obtain ⟨_, _, ⟨T790, L790, k790, n790⟩, -, X790, ⟨Lc790, hQ790, l790, y790, z790⟩, st790⟩ := X547.virtualBack hx (y := (⟨"com/example/osier/osier/SecondFigures", "averageResponseTimeMillis", "()D"⟩ : MethodName)) (z := (⟨"com/example/osier/osier/SecondFigures", "averageResponseTimeMillis", "()D"⟩ : MethodName)) hown (mvT hZ (W 25 rfl)) (mvT hZ (W 26 rfl)) (notFace_of_selects (args := #[]) (mvT hZ (W 28 rfl))) (mvT hZ (W 28 rfl)) (mvT hZ (W 27 rfl)) (by decide) (backOf (W := 0) (rm_avg1 l Z a0 hw [] b536 (ci.toInt64) ((((p3.toInt64) * (ci.toInt64)) + (rr.toInt64))) h547 n0 O547 J547_0 J547_4 J547_6 (own_cl hcb.1)) hZ (W 29 rfl) (W 4 rfl) (by decide) (by decide)) q790a q790c (g := (mkF m 154 #[.val (.long p0), .second, .val (.long p1), .second, iv p2, iv p3, iv p4, iv p5, iv (2 : Int32), iv ci, .val (.long (ci.toInt64)), .second, .val (.long (rr.toInt64)), .second, .val (.long (ci.toInt64)), .second, .val (.long (((p3.toInt64) * (ci.toInt64)) + (rr.toInt64))), .second, rv b536, .unset, .unset, .unset, .unset] [(.ref b536)])) rfl (by rw [hml]; rfl) (Steps.refl _) (argsL := []) (rest := []) (lenOf pd_6 rfl) rfl (by show 2 * 0 + _ ≤ _; exact Nat.le_of_eq rfl) (hb hby at_154) (fun _ _ => ⟨rfl, e547, (by decide : 1 + 0 ≤ _), (by decide : 7 + 0 ≤ _)⟩)
    dsimp only [Pt.U, Pt.locs, Pt.cells, Pt.slots] at X790 l790 y790 z790 st790 hQ790
    replace l790 := l790.symm
    replace y790 : 1 = k790 := y790.symm
    replace z790 : 7 = n790 := z790.symm
    subst l790 y790 z790
    obtain ⟨rfl, M790, e790⟩ := hQ790
    have N790 := Fr.app N547 M790
    have pre791 : ∀ t, Steps p.tables e below (T790.setTop (mkF m 157 #[.val (.long p0), .second, .val (.long p1), .second, iv p2, iv p3, iv p4, iv p5, iv (2 : Int32), iv ci, .val (.long (ci.toInt64)), .second, .val (.long (rr.toInt64)), .second, .val (.long (ci.toInt64)), .second, .val (.long (((p3.toInt64) * (ci.toInt64)) + (rr.toInt64))), .second, rv b536, .unset, .unset, .unset, .unset] [(.double (FP.ddiv (FP.l2d (((p3.toInt64) * (ci.toInt64)) + (rr.toInt64))) (FP.l2d (ci.toInt64))))])) t → Steps p.tables e below (s₁.setTop (entryFrame m #[(.long p0), (.long p1), (.int p2), (.int p3), (.int p4), (.int p5)] maxLocals)) t := fun t kt => pre789 _ (st790.trans kt)
    have pre792 : ∀ t, Steps p.tables e below (T790.setTop (mkF m 168 #[.val (.long p0), .second, .val (.long p1), .second, iv p2, iv p3, iv p4, iv p5, iv (2 : Int32), iv ci, .val (.long (ci.toInt64)), .second, .val (.long (rr.toInt64)), .second, .val (.long (ci.toInt64)), .second, .val (.long (((p3.toInt64) * (ci.toInt64)) + (rr.toInt64))), .second, rv b536, .val (.double (FP.ddiv (FP.l2d (((p3.toInt64) * (ci.toInt64)) + (rr.toInt64))) (FP.l2d (ci.toInt64)))), .second, .val (.double (FP.i2d p3)), .second] [(.int (lcmpW (rr.toInt64) (0 : Int64)))])) t → Steps p.tables e below (s₁.setTop (entryFrame m #[(.long p0), (.long p1), (.int p2), (.int p3), (.int p4), (.int p5)] maxLocals)) t := fun t kt => by
      refine pre791 _ ?_
      show Steps p.tables e below (T790.setTop (mkF m 157 #[.val (.long p0), .second, .val (.long p1), .second, iv p2, iv p3, iv p4, iv p5, iv (2 : Int32), iv ci, .val (.long (ci.toInt64)), .second, .val (.long (rr.toInt64)), .second, .val (.long (ci.toInt64)), .second, .val (.long (((p3.toInt64) * (ci.toInt64)) + (rr.toInt64))), .second, rv b536, .unset, .unset, .unset, .unset] [(.double (FP.ddiv (FP.l2d (((p3.toInt64) * (ci.toInt64)) + (rr.toInt64))) (FP.l2d (ci.toInt64))))])) _
      refine XS.dstore X790.here hx rfl (hb hby at_157) rfl (l' := #[.val (.long p0), .second, .val (.long p1), .second, iv p2, iv p3, iv p4, iv p5, iv (2 : Int32), iv ci, .val (.long (ci.toInt64)), .second, .val (.long (rr.toInt64)), .second, .val (.long (ci.toInt64)), .second, .val (.long (((p3.toInt64) * (ci.toInt64)) + (rr.toInt64))), .second, rv b536, .val (.double (FP.ddiv (FP.l2d (((p3.toInt64) * (ci.toInt64)) + (rr.toInt64))) (FP.l2d (ci.toInt64)))), .second, .unset, .unset]) rfl ?_
      show Steps p.tables e below (T790.setTop (mkF m 159 #[.val (.long p0), .second, .val (.long p1), .second, iv p2, iv p3, iv p4, iv p5, iv (2 : Int32), iv ci, .val (.long (ci.toInt64)), .second, .val (.long (rr.toInt64)), .second, .val (.long (ci.toInt64)), .second, .val (.long (((p3.toInt64) * (ci.toInt64)) + (rr.toInt64))), .second, rv b536, .val (.double (FP.ddiv (FP.l2d (((p3.toInt64) * (ci.toInt64)) + (rr.toInt64))) (FP.l2d (ci.toInt64)))), .second, .unset, .unset] [])) _
      refine XS.iload X790.here hx rfl (hb hby at_159) rfl ?_
      show Steps p.tables e below (T790.setTop (mkF m 161 #[.val (.long p0), .second, .val (.long p1), .second, iv p2, iv p3, iv p4, iv p5, iv (2 : Int32), iv ci, .val (.long (ci.toInt64)), .second, .val (.long (rr.toInt64)), .second, .val (.long (ci.toInt64)), .second, .val (.long (((p3.toInt64) * (ci.toInt64)) + (rr.toInt64))), .second, rv b536, .val (.double (FP.ddiv (FP.l2d (((p3.toInt64) * (ci.toInt64)) + (rr.toInt64))) (FP.l2d (ci.toInt64)))), .second, .unset, .unset] [(.int p3)])) _
      refine XS.i2dS X790.here hx rfl (hb hby at_161) rfl rfl ?_
      show Steps p.tables e below (T790.setTop (mkF m 162 #[.val (.long p0), .second, .val (.long p1), .second, iv p2, iv p3, iv p4, iv p5, iv (2 : Int32), iv ci, .val (.long (ci.toInt64)), .second, .val (.long (rr.toInt64)), .second, .val (.long (ci.toInt64)), .second, .val (.long (((p3.toInt64) * (ci.toInt64)) + (rr.toInt64))), .second, rv b536, .val (.double (FP.ddiv (FP.l2d (((p3.toInt64) * (ci.toInt64)) + (rr.toInt64))) (FP.l2d (ci.toInt64)))), .second, .unset, .unset] [(.double (FP.i2d p3))])) _
      refine XS.dstore X790.here hx rfl (hb hby at_162) rfl (l' := #[.val (.long p0), .second, .val (.long p1), .second, iv p2, iv p3, iv p4, iv p5, iv (2 : Int32), iv ci, .val (.long (ci.toInt64)), .second, .val (.long (rr.toInt64)), .second, .val (.long (ci.toInt64)), .second, .val (.long (((p3.toInt64) * (ci.toInt64)) + (rr.toInt64))), .second, rv b536, .val (.double (FP.ddiv (FP.l2d (((p3.toInt64) * (ci.toInt64)) + (rr.toInt64))) (FP.l2d (ci.toInt64)))), .second, .val (.double (FP.i2d p3)), .second]) rfl ?_
      show Steps p.tables e below (T790.setTop (mkF m 164 #[.val (.long p0), .second, .val (.long p1), .second, iv p2, iv p3, iv p4, iv p5, iv (2 : Int32), iv ci, .val (.long (ci.toInt64)), .second, .val (.long (rr.toInt64)), .second, .val (.long (ci.toInt64)), .second, .val (.long (((p3.toInt64) * (ci.toInt64)) + (rr.toInt64))), .second, rv b536, .val (.double (FP.ddiv (FP.l2d (((p3.toInt64) * (ci.toInt64)) + (rr.toInt64))) (FP.l2d (ci.toInt64)))), .second, .val (.double (FP.i2d p3)), .second] [])) _
      refine XS.lload X790.here hx rfl (hb hby at_164) rfl ?_
      show Steps p.tables e below (T790.setTop (mkF m 166 #[.val (.long p0), .second, .val (.long p1), .second, iv p2, iv p3, iv p4, iv p5, iv (2 : Int32), iv ci, .val (.long (ci.toInt64)), .second, .val (.long (rr.toInt64)), .second, .val (.long (ci.toInt64)), .second, .val (.long (((p3.toInt64) * (ci.toInt64)) + (rr.toInt64))), .second, rv b536, .val (.double (FP.ddiv (FP.l2d (((p3.toInt64) * (ci.toInt64)) + (rr.toInt64))) (FP.l2d (ci.toInt64)))), .second, .val (.double (FP.i2d p3)), .second] [(.long (rr.toInt64))])) _
      refine XS.lconst X790.here hx rfl (hb hby at_166) ?_
      show Steps p.tables e below (T790.setTop (mkF m 167 #[.val (.long p0), .second, .val (.long p1), .second, iv p2, iv p3, iv p4, iv p5, iv (2 : Int32), iv ci, .val (.long (ci.toInt64)), .second, .val (.long (rr.toInt64)), .second, .val (.long (ci.toInt64)), .second, .val (.long (((p3.toInt64) * (ci.toInt64)) + (rr.toInt64))), .second, rv b536, .val (.double (FP.ddiv (FP.l2d (((p3.toInt64) * (ci.toInt64)) + (rr.toInt64))) (FP.l2d (ci.toInt64)))), .second, .val (.double (FP.i2d p3)), .second] [(.long (0 : Int64)), (.long (rr.toInt64))])) _
      refine XS.lcmp X790.here hx rfl (hb hby at_167) rfl ?_
      exact kt
    by_cases hc793 : (lcmpW (rr.toInt64) (0 : Int64)) = (0 : Int32)
    · have pre794 : ∀ t, Steps p.tables e below (T790.setTop (mkF m 184 #[.val (.long p0), .second, .val (.long p1), .second, iv p2, iv p3, iv p4, iv p5, iv (2 : Int32), iv ci, .val (.long (ci.toInt64)), .second, .val (.long (rr.toInt64)), .second, .val (.long (ci.toInt64)), .second, .val (.long (((p3.toInt64) * (ci.toInt64)) + (rr.toInt64))), .second, rv b536, .val (.double (FP.ddiv (FP.l2d (((p3.toInt64) * (ci.toInt64)) + (rr.toInt64))) (FP.l2d (ci.toInt64)))), .second, .val (.double (FP.i2d p3)), .second] [(.int (1 : Int32))])) t → Steps p.tables e below (s₁.setTop (entryFrame m #[(.long p0), (.long p1), (.int p2), (.int p3), (.int p4), (.int p5)] maxLocals)) t := fun t kt => by
        refine pre792 _ ?_
        show Steps p.tables e below (T790.setTop (mkF m 168 #[.val (.long p0), .second, .val (.long p1), .second, iv p2, iv p3, iv p4, iv p5, iv (2 : Int32), iv ci, .val (.long (ci.toInt64)), .second, .val (.long (rr.toInt64)), .second, .val (.long (ci.toInt64)), .second, .val (.long (((p3.toInt64) * (ci.toInt64)) + (rr.toInt64))), .second, rv b536, .val (.double (FP.ddiv (FP.l2d (((p3.toInt64) * (ci.toInt64)) + (rr.toInt64))) (FP.l2d (ci.toInt64)))), .second, .val (.double (FP.i2d p3)), .second] [(.int (lcmpW (rr.toInt64) (0 : Int64)))])) _
        refine XS.ifNo X790.here hx rfl (hb hby at_168) rfl (XT.i0_ne_f hc793) ?_
        show Steps p.tables e below (T790.setTop (mkF m 171 #[.val (.long p0), .second, .val (.long p1), .second, iv p2, iv p3, iv p4, iv p5, iv (2 : Int32), iv ci, .val (.long (ci.toInt64)), .second, .val (.long (rr.toInt64)), .second, .val (.long (ci.toInt64)), .second, .val (.long (((p3.toInt64) * (ci.toInt64)) + (rr.toInt64))), .second, rv b536, .val (.double (FP.ddiv (FP.l2d (((p3.toInt64) * (ci.toInt64)) + (rr.toInt64))) (FP.l2d (ci.toInt64)))), .second, .val (.double (FP.i2d p3)), .second] [])) _
        refine XS.dload X790.here hx rfl (hb hby at_171) rfl ?_
        show Steps p.tables e below (T790.setTop (mkF m 173 #[.val (.long p0), .second, .val (.long p1), .second, iv p2, iv p3, iv p4, iv p5, iv (2 : Int32), iv ci, .val (.long (ci.toInt64)), .second, .val (.long (rr.toInt64)), .second, .val (.long (ci.toInt64)), .second, .val (.long (((p3.toInt64) * (ci.toInt64)) + (rr.toInt64))), .second, rv b536, .val (.double (FP.ddiv (FP.l2d (((p3.toInt64) * (ci.toInt64)) + (rr.toInt64))) (FP.l2d (ci.toInt64)))), .second, .val (.double (FP.i2d p3)), .second] [(.double (FP.ddiv (FP.l2d (((p3.toInt64) * (ci.toInt64)) + (rr.toInt64))) (FP.l2d (ci.toInt64))))])) _
        refine XS.dload X790.here hx rfl (hb hby at_173) rfl ?_
        show Steps p.tables e below (T790.setTop (mkF m 175 #[.val (.long p0), .second, .val (.long p1), .second, iv p2, iv p3, iv p4, iv p5, iv (2 : Int32), iv ci, .val (.long (ci.toInt64)), .second, .val (.long (rr.toInt64)), .second, .val (.long (ci.toInt64)), .second, .val (.long (((p3.toInt64) * (ci.toInt64)) + (rr.toInt64))), .second, rv b536, .val (.double (FP.ddiv (FP.l2d (((p3.toInt64) * (ci.toInt64)) + (rr.toInt64))) (FP.l2d (ci.toInt64)))), .second, .val (.double (FP.i2d p3)), .second] [(.double (FP.i2d p3)), (.double (FP.ddiv (FP.l2d (((p3.toInt64) * (ci.toInt64)) + (rr.toInt64))) (FP.l2d (ci.toInt64))))])) _
        refine XS.dcmpS X790.here hx rfl (hb hby at_175) rfl (v := (0 : Int32)) (own_ve (own_e (own_b2 hcb) (own_cl hcb.1) hc793) _) ?_
        show Steps p.tables e below (T790.setTop (mkF m 176 #[.val (.long p0), .second, .val (.long p1), .second, iv p2, iv p3, iv p4, iv p5, iv (2 : Int32), iv ci, .val (.long (ci.toInt64)), .second, .val (.long (rr.toInt64)), .second, .val (.long (ci.toInt64)), .second, .val (.long (((p3.toInt64) * (ci.toInt64)) + (rr.toInt64))), .second, rv b536, .val (.double (FP.ddiv (FP.l2d (((p3.toInt64) * (ci.toInt64)) + (rr.toInt64))) (FP.l2d (ci.toInt64)))), .second, .val (.double (FP.i2d p3)), .second] [(.int (0 : Int32))])) _
        refine XS.ifNo X790.here hx rfl (hb hby at_176) rfl (XT.i0_ne_f (by decide)) ?_
        show Steps p.tables e below (T790.setTop (mkF m 179 #[.val (.long p0), .second, .val (.long p1), .second, iv p2, iv p3, iv p4, iv p5, iv (2 : Int32), iv ci, .val (.long (ci.toInt64)), .second, .val (.long (rr.toInt64)), .second, .val (.long (ci.toInt64)), .second, .val (.long (((p3.toInt64) * (ci.toInt64)) + (rr.toInt64))), .second, rv b536, .val (.double (FP.ddiv (FP.l2d (((p3.toInt64) * (ci.toInt64)) + (rr.toInt64))) (FP.l2d (ci.toInt64)))), .second, .val (.double (FP.i2d p3)), .second] [])) _
        refine XS.iconst X790.here hx rfl (hb hby at_179) ?_
        show Steps p.tables e below (T790.setTop (mkF m 180 #[.val (.long p0), .second, .val (.long p1), .second, iv p2, iv p3, iv p4, iv p5, iv (2 : Int32), iv ci, .val (.long (ci.toInt64)), .second, .val (.long (rr.toInt64)), .second, .val (.long (ci.toInt64)), .second, .val (.long (((p3.toInt64) * (ci.toInt64)) + (rr.toInt64))), .second, rv b536, .val (.double (FP.ddiv (FP.l2d (((p3.toInt64) * (ci.toInt64)) + (rr.toInt64))) (FP.l2d (ci.toInt64)))), .second, .val (.double (FP.i2d p3)), .second] [(.int (1 : Int32))])) _
        refine XS.goto X790.here hx rfl (pc0 := 180) (pc' := 184) rfl (hb hby at_180) (by decide) (by decide) ?_
        exact kt
      obtain ⟨fs, hr, hrun, hended, hW, hsame⟩ := X790.leave (v := some (.int (1 : Int32))) (fun h => by rw [Bd.returns] at h; cases h)
      refine ⟨_, _, pre794 _ (retN X790 hx (t := .boolean) Bd.returns (by simp) (hb hby at_184) hr), hrun, hended, _, _, rfl, ?_, ⟨_, rfl⟩, hW, hsame.mono (by decide) (by decide)⟩
      show Q_law Z p0 p1 p2 p3 p4 p5 h0 n0 _ T790.heap _
      rw [e790]
      exact ⟨rfl, N790⟩
    · have pre795 : ∀ t, Steps p.tables e below (T790.setTop (mkF m 214 #[.val (.long p0), .second, .val (.long p1), .second, iv p2, iv p3, iv p4, iv p5, iv (2 : Int32), iv ci, .val (.long (ci.toInt64)), .second, .val (.long (rr.toInt64)), .second, .val (.long (ci.toInt64)), .second, .val (.long (((p3.toInt64) * (ci.toInt64)) + (rr.toInt64))), .second, rv b536, .val (.double (FP.ddiv (FP.l2d (((p3.toInt64) * (ci.toInt64)) + (rr.toInt64))) (FP.l2d (ci.toInt64)))), .second, .val (.double (FP.i2d p3)), .second] [(.int (1 : Int32))])) t → Steps p.tables e below (s₁.setTop (entryFrame m #[(.long p0), (.long p1), (.int p2), (.int p3), (.int p4), (.int p5)] maxLocals)) t := fun t kt => by
        refine pre792 _ ?_
        show Steps p.tables e below (T790.setTop (mkF m 168 #[.val (.long p0), .second, .val (.long p1), .second, iv p2, iv p3, iv p4, iv p5, iv (2 : Int32), iv ci, .val (.long (ci.toInt64)), .second, .val (.long (rr.toInt64)), .second, .val (.long (ci.toInt64)), .second, .val (.long (((p3.toInt64) * (ci.toInt64)) + (rr.toInt64))), .second, rv b536, .val (.double (FP.ddiv (FP.l2d (((p3.toInt64) * (ci.toInt64)) + (rr.toInt64))) (FP.l2d (ci.toInt64)))), .second, .val (.double (FP.i2d p3)), .second] [(.int (lcmpW (rr.toInt64) (0 : Int64)))])) _
        refine XS.ifYes X790.here hx rfl (pc0 := 168) (pc' := 185) rfl (hb hby at_168) rfl (XT.i0_ne_t hc793) (by decide) (by decide) ?_
        show Steps p.tables e below (T790.setTop (mkF m 185 #[.val (.long p0), .second, .val (.long p1), .second, iv p2, iv p3, iv p4, iv p5, iv (2 : Int32), iv ci, .val (.long (ci.toInt64)), .second, .val (.long (rr.toInt64)), .second, .val (.long (ci.toInt64)), .second, .val (.long (((p3.toInt64) * (ci.toInt64)) + (rr.toInt64))), .second, rv b536, .val (.double (FP.ddiv (FP.l2d (((p3.toInt64) * (ci.toInt64)) + (rr.toInt64))) (FP.l2d (ci.toInt64)))), .second, .val (.double (FP.i2d p3)), .second] [])) _
        refine XS.iload X790.here hx rfl (hb hby at_185) rfl ?_
        show Steps p.tables e below (T790.setTop (mkF m 187 #[.val (.long p0), .second, .val (.long p1), .second, iv p2, iv p3, iv p4, iv p5, iv (2 : Int32), iv ci, .val (.long (ci.toInt64)), .second, .val (.long (rr.toInt64)), .second, .val (.long (ci.toInt64)), .second, .val (.long (((p3.toInt64) * (ci.toInt64)) + (rr.toInt64))), .second, rv b536, .val (.double (FP.ddiv (FP.l2d (((p3.toInt64) * (ci.toInt64)) + (rr.toInt64))) (FP.l2d (ci.toInt64)))), .second, .val (.double (FP.i2d p3)), .second] [(.int (2 : Int32))])) _
        refine XS.iconst X790.here hx rfl (hb hby at_187) ?_
        show Steps p.tables e below (T790.setTop (mkF m 188 #[.val (.long p0), .second, .val (.long p1), .second, iv p2, iv p3, iv p4, iv p5, iv (2 : Int32), iv ci, .val (.long (ci.toInt64)), .second, .val (.long (rr.toInt64)), .second, .val (.long (ci.toInt64)), .second, .val (.long (((p3.toInt64) * (ci.toInt64)) + (rr.toInt64))), .second, rv b536, .val (.double (FP.ddiv (FP.l2d (((p3.toInt64) * (ci.toInt64)) + (rr.toInt64))) (FP.l2d (ci.toInt64)))), .second, .val (.double (FP.i2d p3)), .second] [(.int (2 : Int32)), (.int (2 : Int32))])) _
        refine XS.icmpNo X790.here hx rfl (hb hby at_188) rfl (XT.ii_ne_f (by decide)) ?_
        show Steps p.tables e below (T790.setTop (mkF m 191 #[.val (.long p0), .second, .val (.long p1), .second, iv p2, iv p3, iv p4, iv p5, iv (2 : Int32), iv ci, .val (.long (ci.toInt64)), .second, .val (.long (rr.toInt64)), .second, .val (.long (ci.toInt64)), .second, .val (.long (((p3.toInt64) * (ci.toInt64)) + (rr.toInt64))), .second, rv b536, .val (.double (FP.ddiv (FP.l2d (((p3.toInt64) * (ci.toInt64)) + (rr.toInt64))) (FP.l2d (ci.toInt64)))), .second, .val (.double (FP.i2d p3)), .second] [])) _
        refine XS.dload X790.here hx rfl (hb hby at_191) rfl ?_
        show Steps p.tables e below (T790.setTop (mkF m 193 #[.val (.long p0), .second, .val (.long p1), .second, iv p2, iv p3, iv p4, iv p5, iv (2 : Int32), iv ci, .val (.long (ci.toInt64)), .second, .val (.long (rr.toInt64)), .second, .val (.long (ci.toInt64)), .second, .val (.long (((p3.toInt64) * (ci.toInt64)) + (rr.toInt64))), .second, rv b536, .val (.double (FP.ddiv (FP.l2d (((p3.toInt64) * (ci.toInt64)) + (rr.toInt64))) (FP.l2d (ci.toInt64)))), .second, .val (.double (FP.i2d p3)), .second] [(.double (FP.i2d p3))])) _
        refine XS.dload X790.here hx rfl (hb hby at_193) rfl ?_
        show Steps p.tables e below (T790.setTop (mkF m 195 #[.val (.long p0), .second, .val (.long p1), .second, iv p2, iv p3, iv p4, iv p5, iv (2 : Int32), iv ci, .val (.long (ci.toInt64)), .second, .val (.long (rr.toInt64)), .second, .val (.long (ci.toInt64)), .second, .val (.long (((p3.toInt64) * (ci.toInt64)) + (rr.toInt64))), .second, rv b536, .val (.double (FP.ddiv (FP.l2d (((p3.toInt64) * (ci.toInt64)) + (rr.toInt64))) (FP.l2d (ci.toInt64)))), .second, .val (.double (FP.i2d p3)), .second] [(.double (FP.ddiv (FP.l2d (((p3.toInt64) * (ci.toInt64)) + (rr.toInt64))) (FP.l2d (ci.toInt64)))), (.double (FP.i2d p3))])) _
        refine XS.dcmpS X790.here hx rfl (hb hby at_195) rfl (v := (-1 : Int32)) (own_vl (own_2 hcb hrb hc793).1 _) ?_
        show Steps p.tables e below (T790.setTop (mkF m 196 #[.val (.long p0), .second, .val (.long p1), .second, iv p2, iv p3, iv p4, iv p5, iv (2 : Int32), iv ci, .val (.long (ci.toInt64)), .second, .val (.long (rr.toInt64)), .second, .val (.long (ci.toInt64)), .second, .val (.long (((p3.toInt64) * (ci.toInt64)) + (rr.toInt64))), .second, rv b536, .val (.double (FP.ddiv (FP.l2d (((p3.toInt64) * (ci.toInt64)) + (rr.toInt64))) (FP.l2d (ci.toInt64)))), .second, .val (.double (FP.i2d p3)), .second] [(.int (-1 : Int32))])) _
        refine XS.ifNo X790.here hx rfl (hb hby at_196) rfl (XT.i0_ge_f (by decide)) ?_
        show Steps p.tables e below (T790.setTop (mkF m 199 #[.val (.long p0), .second, .val (.long p1), .second, iv p2, iv p3, iv p4, iv p5, iv (2 : Int32), iv ci, .val (.long (ci.toInt64)), .second, .val (.long (rr.toInt64)), .second, .val (.long (ci.toInt64)), .second, .val (.long (((p3.toInt64) * (ci.toInt64)) + (rr.toInt64))), .second, rv b536, .val (.double (FP.ddiv (FP.l2d (((p3.toInt64) * (ci.toInt64)) + (rr.toInt64))) (FP.l2d (ci.toInt64)))), .second, .val (.double (FP.i2d p3)), .second] [])) _
        refine XS.dload X790.here hx rfl (hb hby at_199) rfl ?_
        show Steps p.tables e below (T790.setTop (mkF m 201 #[.val (.long p0), .second, .val (.long p1), .second, iv p2, iv p3, iv p4, iv p5, iv (2 : Int32), iv ci, .val (.long (ci.toInt64)), .second, .val (.long (rr.toInt64)), .second, .val (.long (ci.toInt64)), .second, .val (.long (((p3.toInt64) * (ci.toInt64)) + (rr.toInt64))), .second, rv b536, .val (.double (FP.ddiv (FP.l2d (((p3.toInt64) * (ci.toInt64)) + (rr.toInt64))) (FP.l2d (ci.toInt64)))), .second, .val (.double (FP.i2d p3)), .second] [(.double (FP.ddiv (FP.l2d (((p3.toInt64) * (ci.toInt64)) + (rr.toInt64))) (FP.l2d (ci.toInt64))))])) _
        refine XS.dload X790.here hx rfl (hb hby at_201) rfl ?_
        show Steps p.tables e below (T790.setTop (mkF m 203 #[.val (.long p0), .second, .val (.long p1), .second, iv p2, iv p3, iv p4, iv p5, iv (2 : Int32), iv ci, .val (.long (ci.toInt64)), .second, .val (.long (rr.toInt64)), .second, .val (.long (ci.toInt64)), .second, .val (.long (((p3.toInt64) * (ci.toInt64)) + (rr.toInt64))), .second, rv b536, .val (.double (FP.ddiv (FP.l2d (((p3.toInt64) * (ci.toInt64)) + (rr.toInt64))) (FP.l2d (ci.toInt64)))), .second, .val (.double (FP.i2d p3)), .second] [(.double (FP.i2d p3)), (.double (FP.ddiv (FP.l2d (((p3.toInt64) * (ci.toInt64)) + (rr.toInt64))) (FP.l2d (ci.toInt64))))])) _
        refine XS.dconst1 X790.here hx rfl (hb hby at_203) (v := (4607182418800017408 : UInt64)) rfl ?_
        show Steps p.tables e below (T790.setTop (mkF m 204 #[.val (.long p0), .second, .val (.long p1), .second, iv p2, iv p3, iv p4, iv p5, iv (2 : Int32), iv ci, .val (.long (ci.toInt64)), .second, .val (.long (rr.toInt64)), .second, .val (.long (ci.toInt64)), .second, .val (.long (((p3.toInt64) * (ci.toInt64)) + (rr.toInt64))), .second, rv b536, .val (.double (FP.ddiv (FP.l2d (((p3.toInt64) * (ci.toInt64)) + (rr.toInt64))) (FP.l2d (ci.toInt64)))), .second, .val (.double (FP.i2d p3)), .second] [(.double (4607182418800017408 : UInt64)), (.double (FP.i2d p3)), (.double (FP.ddiv (FP.l2d (((p3.toInt64) * (ci.toInt64)) + (rr.toInt64))) (FP.l2d (ci.toInt64))))])) _
        refine XS.daddS X790.here hx rfl (hb hby at_204) rfl (own_ad _) rfl ?_
        show Steps p.tables e below (T790.setTop (mkF m 205 #[.val (.long p0), .second, .val (.long p1), .second, iv p2, iv p3, iv p4, iv p5, iv (2 : Int32), iv ci, .val (.long (ci.toInt64)), .second, .val (.long (rr.toInt64)), .second, .val (.long (ci.toInt64)), .second, .val (.long (((p3.toInt64) * (ci.toInt64)) + (rr.toInt64))), .second, rv b536, .val (.double (FP.ddiv (FP.l2d (((p3.toInt64) * (ci.toInt64)) + (rr.toInt64))) (FP.l2d (ci.toInt64)))), .second, .val (.double (FP.i2d p3)), .second] [(.double (FP.dadd (FP.i2d p3) (4607182418800017408 : UInt64))), (.double (FP.ddiv (FP.l2d (((p3.toInt64) * (ci.toInt64)) + (rr.toInt64))) (FP.l2d (ci.toInt64))))])) _
        refine XS.dcmpS X790.here hx rfl (hb hby at_205) rfl (v := (-1 : Int32)) (own_vl (own_2 hcb hrb hc793).2 _) ?_
        show Steps p.tables e below (T790.setTop (mkF m 206 #[.val (.long p0), .second, .val (.long p1), .second, iv p2, iv p3, iv p4, iv p5, iv (2 : Int32), iv ci, .val (.long (ci.toInt64)), .second, .val (.long (rr.toInt64)), .second, .val (.long (ci.toInt64)), .second, .val (.long (((p3.toInt64) * (ci.toInt64)) + (rr.toInt64))), .second, rv b536, .val (.double (FP.ddiv (FP.l2d (((p3.toInt64) * (ci.toInt64)) + (rr.toInt64))) (FP.l2d (ci.toInt64)))), .second, .val (.double (FP.i2d p3)), .second] [(.int (-1 : Int32))])) _
        refine XS.ifNo X790.here hx rfl (hb hby at_206) rfl (XT.i0_ge_f (by decide)) ?_
        show Steps p.tables e below (T790.setTop (mkF m 209 #[.val (.long p0), .second, .val (.long p1), .second, iv p2, iv p3, iv p4, iv p5, iv (2 : Int32), iv ci, .val (.long (ci.toInt64)), .second, .val (.long (rr.toInt64)), .second, .val (.long (ci.toInt64)), .second, .val (.long (((p3.toInt64) * (ci.toInt64)) + (rr.toInt64))), .second, rv b536, .val (.double (FP.ddiv (FP.l2d (((p3.toInt64) * (ci.toInt64)) + (rr.toInt64))) (FP.l2d (ci.toInt64)))), .second, .val (.double (FP.i2d p3)), .second] [])) _
        refine XS.iconst X790.here hx rfl (hb hby at_209) ?_
        show Steps p.tables e below (T790.setTop (mkF m 210 #[.val (.long p0), .second, .val (.long p1), .second, iv p2, iv p3, iv p4, iv p5, iv (2 : Int32), iv ci, .val (.long (ci.toInt64)), .second, .val (.long (rr.toInt64)), .second, .val (.long (ci.toInt64)), .second, .val (.long (((p3.toInt64) * (ci.toInt64)) + (rr.toInt64))), .second, rv b536, .val (.double (FP.ddiv (FP.l2d (((p3.toInt64) * (ci.toInt64)) + (rr.toInt64))) (FP.l2d (ci.toInt64)))), .second, .val (.double (FP.i2d p3)), .second] [(.int (1 : Int32))])) _
        refine XS.goto X790.here hx rfl (pc0 := 210) (pc' := 214) rfl (hb hby at_210) (by decide) (by decide) ?_
        exact kt
      obtain ⟨fs, hr, hrun, hended, hW, hsame⟩ := X790.leave (v := some (.int (1 : Int32))) (fun h => by rw [Bd.returns] at h; cases h)
      refine ⟨_, _, pre795 _ (retN X790 hx (t := .boolean) Bd.returns (by simp) (hb hby at_214) hr), hrun, hended, _, _, rfl, ?_, ⟨_, rfl⟩, hW, hsame.mono (by decide) (by decide)⟩
      show Q_law Z p0 p1 p2 p3 p4 p5 h0 n0 _ T790.heap _
      rw [e790]
      exact ⟨rfl, N790⟩
  · rw [hv16] at pre15
    have pre796 : ∀ t, Steps p.tables e below (s₁.setTop (mkF m 91 #[.val (.long p0), .second, .val (.long p1), .second, iv p2, iv p3, iv p4, iv p5, iv (3 : Int32), iv ((p2 &&& (1048575 : Int32)) + (1 : Int32)), .unset, .unset, .unset, .unset, .unset, .unset, .unset, .unset, .unset, .unset, .unset, .unset, .unset] [])) t → Steps p.tables e below (s₁.setTop (entryFrame m #[(.long p0), (.long p1), (.int p2), (.int p3), (.int p4), (.int p5)] maxLocals)) t := fun t kt => by
      refine pre15 _ ?_
      show Steps p.tables e below (s₁.setTop (mkF m 6 #[.val (.long p0), .second, .val (.long p1), .second, iv p2, iv p3, iv p4, iv p5, iv (3 : Int32), .unset, .unset, .unset, .unset, .unset, .unset, .unset, .unset, .unset, .unset, .unset, .unset, .unset, .unset] [])) _
      refine XS.iload X0.here hx rfl (hb hby at_6) rfl ?_
      show Steps p.tables e below (s₁.setTop (mkF m 8 #[.val (.long p0), .second, .val (.long p1), .second, iv p2, iv p3, iv p4, iv p5, iv (3 : Int32), .unset, .unset, .unset, .unset, .unset, .unset, .unset, .unset, .unset, .unset, .unset, .unset, .unset, .unset] [(.int (3 : Int32))])) _
      refine XS.ifYes X0.here hx rfl (pc0 := 8) (pc' := 43) rfl (hb hby at_8) rfl (XT.i0_ne_t (by decide)) (by decide) (by decide) ?_
      show Steps p.tables e below (s₁.setTop (mkF m 43 #[.val (.long p0), .second, .val (.long p1), .second, iv p2, iv p3, iv p4, iv p5, iv (3 : Int32), .unset, .unset, .unset, .unset, .unset, .unset, .unset, .unset, .unset, .unset, .unset, .unset, .unset, .unset] [])) _
      refine XS.iload X0.here hx rfl (hb hby at_43) rfl ?_
      show Steps p.tables e below (s₁.setTop (mkF m 45 #[.val (.long p0), .second, .val (.long p1), .second, iv p2, iv p3, iv p4, iv p5, iv (3 : Int32), .unset, .unset, .unset, .unset, .unset, .unset, .unset, .unset, .unset, .unset, .unset, .unset, .unset, .unset] [(.int (3 : Int32))])) _
      refine XS.iconst X0.here hx rfl (hb hby at_45) ?_
      show Steps p.tables e below (s₁.setTop (mkF m 46 #[.val (.long p0), .second, .val (.long p1), .second, iv p2, iv p3, iv p4, iv p5, iv (3 : Int32), .unset, .unset, .unset, .unset, .unset, .unset, .unset, .unset, .unset, .unset, .unset, .unset, .unset, .unset] [(.int (1 : Int32)), (.int (3 : Int32))])) _
      refine XS.icmpYes X0.here hx rfl (pc0 := 46) (pc' := 82) rfl (hb hby at_46) rfl (XT.ii_ne_t (by decide)) (by decide) (by decide) ?_
      show Steps p.tables e below (s₁.setTop (mkF m 82 #[.val (.long p0), .second, .val (.long p1), .second, iv p2, iv p3, iv p4, iv p5, iv (3 : Int32), .unset, .unset, .unset, .unset, .unset, .unset, .unset, .unset, .unset, .unset, .unset, .unset, .unset, .unset] [])) _
      refine XS.iload X0.here hx rfl (hb hby at_82) rfl ?_
      show Steps p.tables e below (s₁.setTop (mkF m 84 #[.val (.long p0), .second, .val (.long p1), .second, iv p2, iv p3, iv p4, iv p5, iv (3 : Int32), .unset, .unset, .unset, .unset, .unset, .unset, .unset, .unset, .unset, .unset, .unset, .unset, .unset, .unset] [(.int p2)])) _
      refine X0.ldcInt hx hown (mvT hZ (W 0 rfl)) (g := (mkF m 84 #[.val (.long p0), .second, .val (.long p1), .second, iv p2, iv p3, iv p4, iv p5, iv (3 : Int32), .unset, .unset, .unset, .unset, .unset, .unset, .unset, .unset, .unset, .unset, .unset, .unset, .unset, .unset] [(.int p2)])) rfl (hb hby at_84) _ ?_
      show Steps p.tables e below (s₁.setTop (mkF m 86 #[.val (.long p0), .second, .val (.long p1), .second, iv p2, iv p3, iv p4, iv p5, iv (3 : Int32), .unset, .unset, .unset, .unset, .unset, .unset, .unset, .unset, .unset, .unset, .unset, .unset, .unset, .unset] [(.int (1048575 : Int32)), (.int p2)])) _
      refine XS.iand X0.here hx rfl (hb hby at_86) rfl ?_
      show Steps p.tables e below (s₁.setTop (mkF m 87 #[.val (.long p0), .second, .val (.long p1), .second, iv p2, iv p3, iv p4, iv p5, iv (3 : Int32), .unset, .unset, .unset, .unset, .unset, .unset, .unset, .unset, .unset, .unset, .unset, .unset, .unset, .unset] [(.int (p2 &&& (1048575 : Int32)))])) _
      refine XS.iconst X0.here hx rfl (hb hby at_87) ?_
      show Steps p.tables e below (s₁.setTop (mkF m 88 #[.val (.long p0), .second, .val (.long p1), .second, iv p2, iv p3, iv p4, iv p5, iv (3 : Int32), .unset, .unset, .unset, .unset, .unset, .unset, .unset, .unset, .unset, .unset, .unset, .unset, .unset, .unset] [(.int (1 : Int32)), (.int (p2 &&& (1048575 : Int32)))])) _
      refine XS.iadd X0.here hx rfl (hb hby at_88) rfl ?_
      show Steps p.tables e below (s₁.setTop (mkF m 89 #[.val (.long p0), .second, .val (.long p1), .second, iv p2, iv p3, iv p4, iv p5, iv (3 : Int32), .unset, .unset, .unset, .unset, .unset, .unset, .unset, .unset, .unset, .unset, .unset, .unset, .unset, .unset] [(.int ((p2 &&& (1048575 : Int32)) + (1 : Int32)))])) _
      refine XS.istore X0.here hx rfl (hb hby at_89) rfl (l' := #[.val (.long p0), .second, .val (.long p1), .second, iv p2, iv p3, iv p4, iv p5, iv (3 : Int32), iv ((p2 &&& (1048575 : Int32)) + (1 : Int32)), .unset, .unset, .unset, .unset, .unset, .unset, .unset, .unset, .unset, .unset, .unset, .unset, .unset]) rfl ?_
      exact kt
    obtain ⟨ci, hci⟩ : ∃ z, z = ((p2 &&& (1048575 : Int32)) + (1 : Int32)) := ⟨_, rfl⟩
    rw [← hci] at pre796
    have hcb : 1 ≤ ci.toInt ∧ ci.toInt ≤ 1048576 := by rw [hci]; exact own_ci p2
    have pre797 : ∀ t, Steps p.tables e below (s₁.setTop (mkF m 104 #[.val (.long p0), .second, .val (.long p1), .second, iv p2, iv p3, iv p4, iv p5, iv (3 : Int32), iv ci, .val (.long (ci.toInt64)), .second, .unset, .unset, .unset, .unset, .unset, .unset, .unset, .unset, .unset, .unset, .unset] [(.int ((p4 &&& (2147483647 : Int32)) - ((p4 &&& (2147483647 : Int32)) / ci) * ci))])) t → Steps p.tables e below (s₁.setTop (entryFrame m #[(.long p0), (.long p1), (.int p2), (.int p3), (.int p4), (.int p5)] maxLocals)) t := fun t kt => by
      refine pre796 _ ?_
      show Steps p.tables e below (s₁.setTop (mkF m 91 #[.val (.long p0), .second, .val (.long p1), .second, iv p2, iv p3, iv p4, iv p5, iv (3 : Int32), iv ci, .unset, .unset, .unset, .unset, .unset, .unset, .unset, .unset, .unset, .unset, .unset, .unset, .unset] [])) _
      refine XS.iload X0.here hx rfl (hb hby at_91) rfl ?_
      show Steps p.tables e below (s₁.setTop (mkF m 93 #[.val (.long p0), .second, .val (.long p1), .second, iv p2, iv p3, iv p4, iv p5, iv (3 : Int32), iv ci, .unset, .unset, .unset, .unset, .unset, .unset, .unset, .unset, .unset, .unset, .unset, .unset, .unset] [(.int ci)])) _
      refine XS.i2l X0.here hx rfl (hb hby at_93) rfl ?_
      show Steps p.tables e below (s₁.setTop (mkF m 94 #[.val (.long p0), .second, .val (.long p1), .second, iv p2, iv p3, iv p4, iv p5, iv (3 : Int32), iv ci, .unset, .unset, .unset, .unset, .unset, .unset, .unset, .unset, .unset, .unset, .unset, .unset, .unset] [(.long (ci.toInt64))])) _
      refine XS.lstore X0.here hx rfl (hb hby at_94) rfl (l' := #[.val (.long p0), .second, .val (.long p1), .second, iv p2, iv p3, iv p4, iv p5, iv (3 : Int32), iv ci, .val (.long (ci.toInt64)), .second, .unset, .unset, .unset, .unset, .unset, .unset, .unset, .unset, .unset, .unset, .unset]) rfl ?_
      show Steps p.tables e below (s₁.setTop (mkF m 96 #[.val (.long p0), .second, .val (.long p1), .second, iv p2, iv p3, iv p4, iv p5, iv (3 : Int32), iv ci, .val (.long (ci.toInt64)), .second, .unset, .unset, .unset, .unset, .unset, .unset, .unset, .unset, .unset, .unset, .unset] [])) _
      refine XS.iload X0.here hx rfl (hb hby at_96) rfl ?_
      show Steps p.tables e below (s₁.setTop (mkF m 98 #[.val (.long p0), .second, .val (.long p1), .second, iv p2, iv p3, iv p4, iv p5, iv (3 : Int32), iv ci, .val (.long (ci.toInt64)), .second, .unset, .unset, .unset, .unset, .unset, .unset, .unset, .unset, .unset, .unset, .unset] [(.int p4)])) _
      refine X0.ldcInt hx hown (mvT hZ (W 1 rfl)) (g := (mkF m 98 #[.val (.long p0), .second, .val (.long p1), .second, iv p2, iv p3, iv p4, iv p5, iv (3 : Int32), iv ci, .val (.long (ci.toInt64)), .second, .unset, .unset, .unset, .unset, .unset, .unset, .unset, .unset, .unset, .unset, .unset] [(.int p4)])) rfl (hb hby at_98) _ ?_
      show Steps p.tables e below (s₁.setTop (mkF m 100 #[.val (.long p0), .second, .val (.long p1), .second, iv p2, iv p3, iv p4, iv p5, iv (3 : Int32), iv ci, .val (.long (ci.toInt64)), .second, .unset, .unset, .unset, .unset, .unset, .unset, .unset, .unset, .unset, .unset, .unset] [(.int (2147483647 : Int32)), (.int p4)])) _
      refine XS.iand X0.here hx rfl (hb hby at_100) rfl ?_
      show Steps p.tables e below (s₁.setTop (mkF m 101 #[.val (.long p0), .second, .val (.long p1), .second, iv p2, iv p3, iv p4, iv p5, iv (3 : Int32), iv ci, .val (.long (ci.toInt64)), .second, .unset, .unset, .unset, .unset, .unset, .unset, .unset, .unset, .unset, .unset, .unset] [(.int (p4 &&& (2147483647 : Int32)))])) _
      refine XS.iload X0.here hx rfl (hb hby at_101) rfl ?_
      show Steps p.tables e below (s₁.setTop (mkF m 103 #[.val (.long p0), .second, .val (.long p1), .second, iv p2, iv p3, iv p4, iv p5, iv (3 : Int32), iv ci, .val (.long (ci.toInt64)), .second, .unset, .unset, .unset, .unset, .unset, .unset, .unset, .unset, .unset, .unset, .unset] [(.int ci), (.int (p4 &&& (2147483647 : Int32)))])) _
      refine XS.irem X0.here hx rfl (hb hby at_103) rfl (own_ci0 hcb.1) ?_
      exact kt
    obtain ⟨rr, hrr⟩ : ∃ z, z = ((p4 &&& (2147483647 : Int32)) - ((p4 &&& (2147483647 : Int32)) / ci) * ci) := ⟨_, rfl⟩
    rw [← hrr] at pre797
    have hrb : 0 ≤ rr.toInt ∧ rr.toInt < ci.toInt := by rw [hrr]; exact own_rm p4 ci hcb.1
    have pre798 : ∀ t, Steps p.tables e below (s₁.setTop (mkF m 134 #[.val (.long p0), .second, .val (.long p1), .second, iv p2, iv p3, iv p4, iv p5, iv (3 : Int32), iv ci, .val (.long (ci.toInt64)), .second, .val (.long (rr.toInt64)), .second, .val (.long (-(ci.toInt64))), .second, .val (.long (((p3.toInt64) * (-(ci.toInt64))) + (rr.toInt64))), .second, .unset, .unset, .unset, .unset, .unset] [])) t → Steps p.tables e below (s₁.setTop (entryFrame m #[(.long p0), (.long p1), (.int p2), (.int p3), (.int p4), (.int p5)] maxLocals)) t := fun t kt => by
      refine pre797 _ ?_
      show Steps p.tables e below (s₁.setTop (mkF m 104 #[.val (.long p0), .second, .val (.long p1), .second, iv p2, iv p3, iv p4, iv p5, iv (3 : Int32), iv ci, .val (.long (ci.toInt64)), .second, .unset, .unset, .unset, .unset, .unset, .unset, .unset, .unset, .unset, .unset, .unset] [(.int rr)])) _
      refine XS.i2l X0.here hx rfl (hb hby at_104) rfl ?_
      show Steps p.tables e below (s₁.setTop (mkF m 105 #[.val (.long p0), .second, .val (.long p1), .second, iv p2, iv p3, iv p4, iv p5, iv (3 : Int32), iv ci, .val (.long (ci.toInt64)), .second, .unset, .unset, .unset, .unset, .unset, .unset, .unset, .unset, .unset, .unset, .unset] [(.long (rr.toInt64))])) _
      refine XS.lstore X0.here hx rfl (hb hby at_105) rfl (l' := #[.val (.long p0), .second, .val (.long p1), .second, iv p2, iv p3, iv p4, iv p5, iv (3 : Int32), iv ci, .val (.long (ci.toInt64)), .second, .val (.long (rr.toInt64)), .second, .unset, .unset, .unset, .unset, .unset, .unset, .unset, .unset, .unset]) rfl ?_
      show Steps p.tables e below (s₁.setTop (mkF m 107 #[.val (.long p0), .second, .val (.long p1), .second, iv p2, iv p3, iv p4, iv p5, iv (3 : Int32), iv ci, .val (.long (ci.toInt64)), .second, .val (.long (rr.toInt64)), .second, .unset, .unset, .unset, .unset, .unset, .unset, .unset, .unset, .unset] [])) _
      refine XS.iload X0.here hx rfl (hb hby at_107) rfl ?_
      show Steps p.tables e below (s₁.setTop (mkF m 109 #[.val (.long p0), .second, .val (.long p1), .second, iv p2, iv p3, iv p4, iv p5, iv (3 : Int32), iv ci, .val (.long (ci.toInt64)), .second, .val (.long (rr.toInt64)), .second, .unset, .unset, .unset, .unset, .unset, .unset, .unset, .unset, .unset] [(.int (3 : Int32))])) _
      refine XS.iconst X0.here hx rfl (hb hby at_109) ?_
      show Steps p.tables e below (s₁.setTop (mkF m 110 #[.val (.long p0), .second, .val (.long p1), .second, iv p2, iv p3, iv p4, iv p5, iv (3 : Int32), iv ci, .val (.long (ci.toInt64)), .second, .val (.long (rr.toInt64)), .second, .unset, .unset, .unset, .unset, .unset, .unset, .unset, .unset, .unset] [(.int (3 : Int32)), (.int (3 : Int32))])) _
      refine XS.icmpNo X0.here hx rfl (hb hby at_110) rfl (XT.ii_ne_f (by decide)) ?_
      show Steps p.tables e below (s₁.setTop (mkF m 113 #[.val (.long p0), .second, .val (.long p1), .second, iv p2, iv p3, iv p4, iv p5, iv (3 : Int32), iv ci, .val (.long (ci.toInt64)), .second, .val (.long (rr.toInt64)), .second, .unset, .unset, .unset, .unset, .unset, .unset, .unset, .unset, .unset] [])) _
      refine XS.lload X0.here hx rfl (hb hby at_113) rfl ?_
      show Steps p.tables e below (s₁.setTop (mkF m 115 #[.val (.long p0), .second, .val (.long p1), .second, iv p2, iv p3, iv p4, iv p5, iv (3 : Int32), iv ci, .val (.long (ci.toInt64)), .second, .val (.long (rr.toInt64)), .second, .unset, .unset, .unset, .unset, .unset, .unset, .unset, .unset, .unset] [(.long (ci.toInt64))])) _
      refine XS.lneg X0.here hx rfl (hb hby at_115) rfl ?_
      show Steps p.tables e below (s₁.setTop (mkF m 116 #[.val (.long p0), .second, .val (.long p1), .second, iv p2, iv p3, iv p4, iv p5, iv (3 : Int32), iv ci, .val (.long (ci.toInt64)), .second, .val (.long (rr.toInt64)), .second, .unset, .unset, .unset, .unset, .unset, .unset, .unset, .unset, .unset] [(.long (-(ci.toInt64)))])) _
      refine XS.goto X0.here hx rfl (pc0 := 116) (pc' := 121) rfl (hb hby at_116) (by decide) (by decide) ?_
      show Steps p.tables e below (s₁.setTop (mkF m 121 #[.val (.long p0), .second, .val (.long p1), .second, iv p2, iv p3, iv p4, iv p5, iv (3 : Int32), iv ci, .val (.long (ci.toInt64)), .second, .val (.long (rr.toInt64)), .second, .unset, .unset, .unset, .unset, .unset, .unset, .unset, .unset, .unset] [(.long (-(ci.toInt64)))])) _
      refine XS.lstore X0.here hx rfl (hb hby at_121) rfl (l' := #[.val (.long p0), .second, .val (.long p1), .second, iv p2, iv p3, iv p4, iv p5, iv (3 : Int32), iv ci, .val (.long (ci.toInt64)), .second, .val (.long (rr.toInt64)), .second, .val (.long (-(ci.toInt64))), .second, .unset, .unset, .unset, .unset, .unset, .unset, .unset]) rfl ?_
      show Steps p.tables e below (s₁.setTop (mkF m 123 #[.val (.long p0), .second, .val (.long p1), .second, iv p2, iv p3, iv p4, iv p5, iv (3 : Int32), iv ci, .val (.long (ci.toInt64)), .second, .val (.long (rr.toInt64)), .second, .val (.long (-(ci.toInt64))), .second, .unset, .unset, .unset, .unset, .unset, .unset, .unset] [])) _
      refine XS.iload X0.here hx rfl (hb hby at_123) rfl ?_
      show Steps p.tables e below (s₁.setTop (mkF m 125 #[.val (.long p0), .second, .val (.long p1), .second, iv p2, iv p3, iv p4, iv p5, iv (3 : Int32), iv ci, .val (.long (ci.toInt64)), .second, .val (.long (rr.toInt64)), .second, .val (.long (-(ci.toInt64))), .second, .unset, .unset, .unset, .unset, .unset, .unset, .unset] [(.int p3)])) _
      refine XS.i2l X0.here hx rfl (hb hby at_125) rfl ?_
      show Steps p.tables e below (s₁.setTop (mkF m 126 #[.val (.long p0), .second, .val (.long p1), .second, iv p2, iv p3, iv p4, iv p5, iv (3 : Int32), iv ci, .val (.long (ci.toInt64)), .second, .val (.long (rr.toInt64)), .second, .val (.long (-(ci.toInt64))), .second, .unset, .unset, .unset, .unset, .unset, .unset, .unset] [(.long (p3.toInt64))])) _
      refine XS.lload X0.here hx rfl (hb hby at_126) rfl ?_
      show Steps p.tables e below (s₁.setTop (mkF m 128 #[.val (.long p0), .second, .val (.long p1), .second, iv p2, iv p3, iv p4, iv p5, iv (3 : Int32), iv ci, .val (.long (ci.toInt64)), .second, .val (.long (rr.toInt64)), .second, .val (.long (-(ci.toInt64))), .second, .unset, .unset, .unset, .unset, .unset, .unset, .unset] [(.long (-(ci.toInt64))), (.long (p3.toInt64))])) _
      refine XS.lmul X0.here hx rfl (hb hby at_128) rfl ?_
      show Steps p.tables e below (s₁.setTop (mkF m 129 #[.val (.long p0), .second, .val (.long p1), .second, iv p2, iv p3, iv p4, iv p5, iv (3 : Int32), iv ci, .val (.long (ci.toInt64)), .second, .val (.long (rr.toInt64)), .second, .val (.long (-(ci.toInt64))), .second, .unset, .unset, .unset, .unset, .unset, .unset, .unset] [(.long ((p3.toInt64) * (-(ci.toInt64))))])) _
      refine XS.lload X0.here hx rfl (hb hby at_129) rfl ?_
      show Steps p.tables e below (s₁.setTop (mkF m 131 #[.val (.long p0), .second, .val (.long p1), .second, iv p2, iv p3, iv p4, iv p5, iv (3 : Int32), iv ci, .val (.long (ci.toInt64)), .second, .val (.long (rr.toInt64)), .second, .val (.long (-(ci.toInt64))), .second, .unset, .unset, .unset, .unset, .unset, .unset, .unset] [(.long (rr.toInt64)), (.long ((p3.toInt64) * (-(ci.toInt64))))])) _
      refine XS.ladd X0.here hx rfl (hb hby at_131) rfl ?_
      show Steps p.tables e below (s₁.setTop (mkF m 132 #[.val (.long p0), .second, .val (.long p1), .second, iv p2, iv p3, iv p4, iv p5, iv (3 : Int32), iv ci, .val (.long (ci.toInt64)), .second, .val (.long (rr.toInt64)), .second, .val (.long (-(ci.toInt64))), .second, .unset, .unset, .unset, .unset, .unset, .unset, .unset] [(.long (((p3.toInt64) * (-(ci.toInt64))) + (rr.toInt64)))])) _
      refine XS.lstore X0.here hx rfl (hb hby at_132) rfl (l' := #[.val (.long p0), .second, .val (.long p1), .second, iv p2, iv p3, iv p4, iv p5, iv (3 : Int32), iv ci, .val (.long (ci.toInt64)), .second, .val (.long (rr.toInt64)), .second, .val (.long (-(ci.toInt64))), .second, .val (.long (((p3.toInt64) * (-(ci.toInt64))) + (rr.toInt64))), .second, .unset, .unset, .unset, .unset, .unset]) rfl ?_
      exact kt
    obtain ⟨T799, h799, X799, e799, E799, A799, D799, -, st799⟩ := newO X0 hx hZ hown (W 2 rfl) (W 3 rfl) (W 4 rfl) e0 (g := (mkF m 134 #[.val (.long p0), .second, .val (.long p1), .second, iv p2, iv p3, iv p4, iv p5, iv (3 : Int32), iv ci, .val (.long (ci.toInt64)), .second, .val (.long (rr.toInt64)), .second, .val (.long (-(ci.toInt64))), .second, .val (.long (((p3.toInt64) * (-(ci.toInt64))) + (rr.toInt64))), .second, .unset, .unset, .unset, .unset, .unset] [])) rfl (hb hby at_134) (by decide) (by decide)
    obtain ⟨b799, g799⟩ : ∃ z, z = h0.size := ⟨_, rfl⟩
    rw [← g799] at A799 D799 st799
    have pre800 : ∀ t, Steps p.tables e below (T799.setTop (mkF m 137 #[.val (.long p0), .second, .val (.long p1), .second, iv p2, iv p3, iv p4, iv p5, iv (3 : Int32), iv ci, .val (.long (ci.toInt64)), .second, .val (.long (rr.toInt64)), .second, .val (.long (-(ci.toInt64))), .second, .val (.long (((p3.toInt64) * (-(ci.toInt64))) + (rr.toInt64))), .second, .unset, .unset, .unset, .unset, .unset] [(.ref b799)])) t → Steps p.tables e below (s₁.setTop (entryFrame m #[(.long p0), (.long p1), (.int p2), (.int p3), (.int p4), (.int p5)] maxLocals)) t := fun t kt => pre798 _ (st799 _ kt)
    have O799 := O0.ext E799
    have K799 : Keep h0 h799 [] := K0.ext E799
    have g_b799 : n0 ≤ b799 := Nat.le_trans (Nat.le_trans (Nat.le_of_eq O0.1.symm) O0.2.1) (Nat.le_of_eq g799.symm)
    have sz_b799 : h0.size ≤ b799 := Nat.le_trans K0.1 (Nat.le_of_eq g799.symm)
    have F801 : Exa Z h799 b799 "com/example/osier/osier/SecondFigures" := A799
    have F802 : Fld Z h799 b799 "com/example/osier/osier/SecondFigures" "startMillis" "J" (.long (0 : Int64)) := D799 (Or.inr (W 12 rfl)) (ty := .long) (by decide)
    have F803 : Fld Z h799 b799 "com/example/osier/osier/SecondFigures" "admitted" "J" (.long (0 : Int64)) := D799 (Or.inr (W 14 rfl)) (ty := .long) (by decide)
    have F804 : Fld Z h799 b799 "com/example/osier/osier/SecondFigures" "refused" "J" (.long (0 : Int64)) := D799 (Or.inr (W 16 rfl)) (ty := .long) (by decide)
    have F805 : Fld Z h799 b799 "com/example/osier/osier/SecondFigures" "completed" "J" (.long (0 : Int64)) := D799 (Or.inr (W 18 rfl)) (ty := .long) (by decide)
    have F806 : Fld Z h799 b799 "com/example/osier/osier/SecondFigures" "errors" "J" (.long (0 : Int64)) := D799 (Or.inr (W 20 rfl)) (ty := .long) (by decide)
    have F807 : Fld Z h799 b799 "com/example/osier/osier/SecondFigures" "responseTimeMillis" "J" (.long (0 : Int64)) := D799 (Or.inr (W 22 rfl)) (ty := .long) (by decide)
    have F808 : Fld Z h799 b799 "com/example/osier/osier/SecondFigures" "inside" "J" (.long (0 : Int64)) := D799 (Or.inr (W 24 rfl)) (ty := .long) (by decide)
    have pre809 : ∀ t, Steps p.tables e below (T799.setTop (mkF m 147 #[.val (.long p0), .second, .val (.long p1), .second, iv p2, iv p3, iv p4, iv p5, iv (3 : Int32), iv ci, .val (.long (ci.toInt64)), .second, .val (.long (rr.toInt64)), .second, .val (.long (-(ci.toInt64))), .second, .val (.long (((p3.toInt64) * (-(ci.toInt64))) + (rr.toInt64))), .second, .unset, .unset, .unset, .unset, .unset] [(.long p1), (.long (((p3.toInt64) * (-(ci.toInt64))) + (rr.toInt64))), (.long p1), (.long (-(ci.toInt64))), (.long p1), (.long p1), (.long p1), (.ref b799), (.ref b799)])) t → Steps p.tables e below (s₁.setTop (entryFrame m #[(.long p0), (.long p1), (.int p2), (.int p3), (.int p4), (.int p5)] maxLocals)) t := fun t kt => by
      refine pre800 _ ?_
      show Steps p.tables e below (T799.setTop (mkF m 137 #[.val (.long p0), .second, .val (.long p1), .second, iv p2, iv p3, iv p4, iv p5, iv (3 : Int32), iv ci, .val (.long (ci.toInt64)), .second, .val (.long (rr.toInt64)), .second, .val (.long (-(ci.toInt64))), .second, .val (.long (((p3.toInt64) * (-(ci.toInt64))) + (rr.toInt64))), .second, .unset, .unset, .unset, .unset, .unset] [(.ref b799)])) _
      refine XS.dup X799.here hx rfl (hb hby at_137) rfl rfl ?_
      show Steps p.tables e below (T799.setTop (mkF m 138 #[.val (.long p0), .second, .val (.long p1), .second, iv p2, iv p3, iv p4, iv p5, iv (3 : Int32), iv ci, .val (.long (ci.toInt64)), .second, .val (.long (rr.toInt64)), .second, .val (.long (-(ci.toInt64))), .second, .val (.long (((p3.toInt64) * (-(ci.toInt64))) + (rr.toInt64))), .second, .unset, .unset, .unset, .unset, .unset] [(.ref b799), (.ref b799)])) _
      refine XS.lloadN X799.here hx rfl (hb hby at_138) rfl ?_
      show Steps p.tables e below (T799.setTop (mkF m 139 #[.val (.long p0), .second, .val (.long p1), .second, iv p2, iv p3, iv p4, iv p5, iv (3 : Int32), iv ci, .val (.long (ci.toInt64)), .second, .val (.long (rr.toInt64)), .second, .val (.long (-(ci.toInt64))), .second, .val (.long (((p3.toInt64) * (-(ci.toInt64))) + (rr.toInt64))), .second, .unset, .unset, .unset, .unset, .unset] [(.long p1), (.ref b799), (.ref b799)])) _
      refine XS.lloadN X799.here hx rfl (hb hby at_139) rfl ?_
      show Steps p.tables e below (T799.setTop (mkF m 140 #[.val (.long p0), .second, .val (.long p1), .second, iv p2, iv p3, iv p4, iv p5, iv (3 : Int32), iv ci, .val (.long (ci.toInt64)), .second, .val (.long (rr.toInt64)), .second, .val (.long (-(ci.toInt64))), .second, .val (.long (((p3.toInt64) * (-(ci.toInt64))) + (rr.toInt64))), .second, .unset, .unset, .unset, .unset, .unset] [(.long p1), (.long p1), (.ref b799), (.ref b799)])) _
      refine XS.lloadN X799.here hx rfl (hb hby at_140) rfl ?_
      show Steps p.tables e below (T799.setTop (mkF m 141 #[.val (.long p0), .second, .val (.long p1), .second, iv p2, iv p3, iv p4, iv p5, iv (3 : Int32), iv ci, .val (.long (ci.toInt64)), .second, .val (.long (rr.toInt64)), .second, .val (.long (-(ci.toInt64))), .second, .val (.long (((p3.toInt64) * (-(ci.toInt64))) + (rr.toInt64))), .second, .unset, .unset, .unset, .unset, .unset] [(.long p1), (.long p1), (.long p1), (.ref b799), (.ref b799)])) _
      refine XS.lload X799.here hx rfl (hb hby at_141) rfl ?_
      show Steps p.tables e below (T799.setTop (mkF m 143 #[.val (.long p0), .second, .val (.long p1), .second, iv p2, iv p3, iv p4, iv p5, iv (3 : Int32), iv ci, .val (.long (ci.toInt64)), .second, .val (.long (rr.toInt64)), .second, .val (.long (-(ci.toInt64))), .second, .val (.long (((p3.toInt64) * (-(ci.toInt64))) + (rr.toInt64))), .second, .unset, .unset, .unset, .unset, .unset] [(.long (-(ci.toInt64))), (.long p1), (.long p1), (.long p1), (.ref b799), (.ref b799)])) _
      refine XS.lloadN X799.here hx rfl (hb hby at_143) rfl ?_
      show Steps p.tables e below (T799.setTop (mkF m 144 #[.val (.long p0), .second, .val (.long p1), .second, iv p2, iv p3, iv p4, iv p5, iv (3 : Int32), iv ci, .val (.long (ci.toInt64)), .second, .val (.long (rr.toInt64)), .second, .val (.long (-(ci.toInt64))), .second, .val (.long (((p3.toInt64) * (-(ci.toInt64))) + (rr.toInt64))), .second, .unset, .unset, .unset, .unset, .unset] [(.long p1), (.long (-(ci.toInt64))), (.long p1), (.long p1), (.long p1), (.ref b799), (.ref b799)])) _
      refine XS.lload X799.here hx rfl (hb hby at_144) rfl ?_
      show Steps p.tables e below (T799.setTop (mkF m 146 #[.val (.long p0), .second, .val (.long p1), .second, iv p2, iv p3, iv p4, iv p5, iv (3 : Int32), iv ci, .val (.long (ci.toInt64)), .second, .val (.long (rr.toInt64)), .second, .val (.long (-(ci.toInt64))), .second, .val (.long (((p3.toInt64) * (-(ci.toInt64))) + (rr.toInt64))), .second, .unset, .unset, .unset, .unset, .unset] [(.long (((p3.toInt64) * (-(ci.toInt64))) + (rr.toInt64))), (.long p1), (.long (-(ci.toInt64))), (.long p1), (.long p1), (.long p1), (.ref b799), (.ref b799)])) _
      refine XS.lloadN X799.here hx rfl (hb hby at_146) rfl ?_
      exact kt
    obtain ⟨_, _, ⟨T810, L810, k810, n810⟩, -, X810, ⟨Lc810, hQ810, l810, y810, z810⟩, st810⟩ := X799.specialBack hx (y := (⟨"com/example/osier/osier/SecondFigures", "<init>", "(JJJJJJJ)V"⟩ : MethodName)) rfl hown (mvT hZ (W 5 rfl)) (mvT hZ (W 6 rfl)) (mvT hZ (W 7 rfl)) (by decide) (backOf (W := 1) (rm_init1_2 l Z a0 hw [] b799 p1 (-(ci.toInt64)) ((((p3.toInt64) * (-(ci.toInt64))) + (rr.toInt64))) h799 n0 O799 g_b799 F801 F802 F803 F804 F805 F806 F807 F808) hZ (W 7 rfl) (W 4 rfl) (by decide) (by decide)) (g := (mkF m 147 #[.val (.long p0), .second, .val (.long p1), .second, iv p2, iv p3, iv p4, iv p5, iv (3 : Int32), iv ci, .val (.long (ci.toInt64)), .second, .val (.long (rr.toInt64)), .second, .val (.long (-(ci.toInt64))), .second, .val (.long (((p3.toInt64) * (-(ci.toInt64))) + (rr.toInt64))), .second, .unset, .unset, .unset, .unset, .unset] [(.long p1), (.long (((p3.toInt64) * (-(ci.toInt64))) + (rr.toInt64))), (.long p1), (.long (-(ci.toInt64))), (.long p1), (.long p1), (.long p1), (.ref b799), (.ref b799)])) rfl (by rw [hml]; rfl) (Steps.refl _) (a := b799) (argsL := [(.long p1), (.long p1), (.long p1), (.long (-(ci.toInt64))), (.long p1), (.long (((p3.toInt64) * (-(ci.toInt64))) + (rr.toInt64))), (.long p1)]) (rest := [(.ref b799)]) (lenOf pd_5 rfl) rfl (by show 2 * 0 + _ ≤ _; exact Nat.le_of_eq rfl) (hb hby at_147) (fun _ _ => ⟨rfl, e799, (by decide : 1 + 0 ≤ _), (by decide : 7 + 0 ≤ _)⟩)
    dsimp only [Pt.U, Pt.locs, Pt.cells, Pt.slots] at X810 l810 y810 z810 st810 hQ810
    replace l810 := l810.symm
    replace y810 : 1 = k810 := y810.symm
    replace z810 : 7 = n810 := z810.symm
    subst l810 y810 z810
    obtain ⟨rfl, M810, Kc810, O810, J810_0, J810_1, J810_2, J810_3, J810_4, J810_5, J810_6, J810_7⟩ := hQ810
    obtain ⟨h810, e810⟩ : ∃ z, T810.heap = z := ⟨_, rfl⟩
    rw [e810] at Kc810 O810 J810_0 J810_1 J810_2 J810_3 J810_4 J810_5 J810_6 J810_7
    have N810 := Fr.app N0 M810
    have K810 : Keep h0 h810 [] := K799.trans Kc810 (own_all1 (Or.inr sz_b799))
    have pre811 : ∀ t, Steps p.tables e below (T810.setTop (mkF m 150 #[.val (.long p0), .second, .val (.long p1), .second, iv p2, iv p3, iv p4, iv p5, iv (3 : Int32), iv ci, .val (.long (ci.toInt64)), .second, .val (.long (rr.toInt64)), .second, .val (.long (-(ci.toInt64))), .second, .val (.long (((p3.toInt64) * (-(ci.toInt64))) + (rr.toInt64))), .second, .unset, .unset, .unset, .unset, .unset] [(.ref b799)])) t → Steps p.tables e below (s₁.setTop (entryFrame m #[(.long p0), (.long p1), (.int p2), (.int p3), (.int p4), (.int p5)] maxLocals)) t := fun t kt => pre809 _ (st810.trans kt)
    have pre812 : ∀ t, Steps p.tables e below (T810.setTop (mkF m 154 #[.val (.long p0), .second, .val (.long p1), .second, iv p2, iv p3, iv p4, iv p5, iv (3 : Int32), iv ci, .val (.long (ci.toInt64)), .second, .val (.long (rr.toInt64)), .second, .val (.long (-(ci.toInt64))), .second, .val (.long (((p3.toInt64) * (-(ci.toInt64))) + (rr.toInt64))), .second, rv b799, .unset, .unset, .unset, .unset] [(.ref b799)])) t → Steps p.tables e below (s₁.setTop (entryFrame m #[(.long p0), (.long p1), (.int p2), (.int p3), (.int p4), (.int p5)] maxLocals)) t := fun t kt => by
      refine pre811 _ ?_
      show Steps p.tables e below (T810.setTop (mkF m 150 #[.val (.long p0), .second, .val (.long p1), .second, iv p2, iv p3, iv p4, iv p5, iv (3 : Int32), iv ci, .val (.long (ci.toInt64)), .second, .val (.long (rr.toInt64)), .second, .val (.long (-(ci.toInt64))), .second, .val (.long (((p3.toInt64) * (-(ci.toInt64))) + (rr.toInt64))), .second, .unset, .unset, .unset, .unset, .unset] [(.ref b799)])) _
      refine XS.astore X810.here hx rfl (hb hby at_150) rfl rfl (l' := #[.val (.long p0), .second, .val (.long p1), .second, iv p2, iv p3, iv p4, iv p5, iv (3 : Int32), iv ci, .val (.long (ci.toInt64)), .second, .val (.long (rr.toInt64)), .second, .val (.long (-(ci.toInt64))), .second, .val (.long (((p3.toInt64) * (-(ci.toInt64))) + (rr.toInt64))), .second, rv b799, .unset, .unset, .unset, .unset]) rfl ?_
      show Steps p.tables e below (T810.setTop (mkF m 152 #[.val (.long p0), .second, .val (.long p1), .second, iv p2, iv p3, iv p4, iv p5, iv (3 : Int32), iv ci, .val (.long (ci.toInt64)), .second, .val (.long (rr.toInt64)), .second, .val (.long (-(ci.toInt64))), .second, .val (.long (((p3.toInt64) * (-(ci.toInt64))) + (rr.toInt64))), .second, rv b799, .unset, .unset, .unset, .unset] [])) _
      refine XS.aload X810.here hx rfl (hb hby at_152) rfl rfl ?_
      exact kt
    obtain ⟨cq813, kq813, q813a, q813b, q813c⟩ := isOf hZ e810 J810_0
    obtain ⟨_, _, ⟨T813, L813, k813, n813⟩, -, X813, ⟨Lc813, hQ813, l813, y813, z813⟩, st813⟩ := X810.virtualBack hx (y := (⟨"com/example/osier/osier/SecondFigures", "averageResponseTimeMillis", "()D"⟩ : MethodName)) (z := (⟨"com/example/osier/osier/SecondFigures", "averageResponseTimeMillis", "()D"⟩ : MethodName)) hown (mvT hZ (W 25 rfl)) (mvT hZ (W 26 rfl)) (notFace_of_selects (args := #[]) (mvT hZ (W 28 rfl))) (mvT hZ (W 28 rfl)) (mvT hZ (W 27 rfl)) (by decide) (backOf (W := 0) (rm_avg1 l Z a0 hw [] b799 (-(ci.toInt64)) ((((p3.toInt64) * (-(ci.toInt64))) + (rr.toInt64))) h810 n0 O810 J810_0 J810_4 J810_6 (own_cn hcb.1)) hZ (W 29 rfl) (W 4 rfl) (by decide) (by decide)) q813a q813c (g := (mkF m 154 #[.val (.long p0), .second, .val (.long p1), .second, iv p2, iv p3, iv p4, iv p5, iv (3 : Int32), iv ci, .val (.long (ci.toInt64)), .second, .val (.long (rr.toInt64)), .second, .val (.long (-(ci.toInt64))), .second, .val (.long (((p3.toInt64) * (-(ci.toInt64))) + (rr.toInt64))), .second, rv b799, .unset, .unset, .unset, .unset] [(.ref b799)])) rfl (by rw [hml]; rfl) (Steps.refl _) (argsL := []) (rest := []) (lenOf pd_6 rfl) rfl (by show 2 * 0 + _ ≤ _; exact Nat.le_of_eq rfl) (hb hby at_154) (fun _ _ => ⟨rfl, e810, (by decide : 1 + 0 ≤ _), (by decide : 7 + 0 ≤ _)⟩)
    dsimp only [Pt.U, Pt.locs, Pt.cells, Pt.slots] at X813 l813 y813 z813 st813 hQ813
    replace l813 := l813.symm
    replace y813 : 1 = k813 := y813.symm
    replace z813 : 7 = n813 := z813.symm
    subst l813 y813 z813
    obtain ⟨rfl, M813, e813⟩ := hQ813
    have N813 := Fr.app N810 M813
    have pre814 : ∀ t, Steps p.tables e below (T813.setTop (mkF m 157 #[.val (.long p0), .second, .val (.long p1), .second, iv p2, iv p3, iv p4, iv p5, iv (3 : Int32), iv ci, .val (.long (ci.toInt64)), .second, .val (.long (rr.toInt64)), .second, .val (.long (-(ci.toInt64))), .second, .val (.long (((p3.toInt64) * (-(ci.toInt64))) + (rr.toInt64))), .second, rv b799, .unset, .unset, .unset, .unset] [(.double (FP.ddiv (FP.l2d (((p3.toInt64) * (-(ci.toInt64))) + (rr.toInt64))) (FP.l2d (-(ci.toInt64)))))])) t → Steps p.tables e below (s₁.setTop (entryFrame m #[(.long p0), (.long p1), (.int p2), (.int p3), (.int p4), (.int p5)] maxLocals)) t := fun t kt => pre812 _ (st813.trans kt)
    have pre815 : ∀ t, Steps p.tables e below (T813.setTop (mkF m 168 #[.val (.long p0), .second, .val (.long p1), .second, iv p2, iv p3, iv p4, iv p5, iv (3 : Int32), iv ci, .val (.long (ci.toInt64)), .second, .val (.long (rr.toInt64)), .second, .val (.long (-(ci.toInt64))), .second, .val (.long (((p3.toInt64) * (-(ci.toInt64))) + (rr.toInt64))), .second, rv b799, .val (.double (FP.ddiv (FP.l2d (((p3.toInt64) * (-(ci.toInt64))) + (rr.toInt64))) (FP.l2d (-(ci.toInt64))))), .second, .val (.double (FP.i2d p3)), .second] [(.int (lcmpW (rr.toInt64) (0 : Int64)))])) t → Steps p.tables e below (s₁.setTop (entryFrame m #[(.long p0), (.long p1), (.int p2), (.int p3), (.int p4), (.int p5)] maxLocals)) t := fun t kt => by
      refine pre814 _ ?_
      show Steps p.tables e below (T813.setTop (mkF m 157 #[.val (.long p0), .second, .val (.long p1), .second, iv p2, iv p3, iv p4, iv p5, iv (3 : Int32), iv ci, .val (.long (ci.toInt64)), .second, .val (.long (rr.toInt64)), .second, .val (.long (-(ci.toInt64))), .second, .val (.long (((p3.toInt64) * (-(ci.toInt64))) + (rr.toInt64))), .second, rv b799, .unset, .unset, .unset, .unset] [(.double (FP.ddiv (FP.l2d (((p3.toInt64) * (-(ci.toInt64))) + (rr.toInt64))) (FP.l2d (-(ci.toInt64)))))])) _
      refine XS.dstore X813.here hx rfl (hb hby at_157) rfl (l' := #[.val (.long p0), .second, .val (.long p1), .second, iv p2, iv p3, iv p4, iv p5, iv (3 : Int32), iv ci, .val (.long (ci.toInt64)), .second, .val (.long (rr.toInt64)), .second, .val (.long (-(ci.toInt64))), .second, .val (.long (((p3.toInt64) * (-(ci.toInt64))) + (rr.toInt64))), .second, rv b799, .val (.double (FP.ddiv (FP.l2d (((p3.toInt64) * (-(ci.toInt64))) + (rr.toInt64))) (FP.l2d (-(ci.toInt64))))), .second, .unset, .unset]) rfl ?_
      show Steps p.tables e below (T813.setTop (mkF m 159 #[.val (.long p0), .second, .val (.long p1), .second, iv p2, iv p3, iv p4, iv p5, iv (3 : Int32), iv ci, .val (.long (ci.toInt64)), .second, .val (.long (rr.toInt64)), .second, .val (.long (-(ci.toInt64))), .second, .val (.long (((p3.toInt64) * (-(ci.toInt64))) + (rr.toInt64))), .second, rv b799, .val (.double (FP.ddiv (FP.l2d (((p3.toInt64) * (-(ci.toInt64))) + (rr.toInt64))) (FP.l2d (-(ci.toInt64))))), .second, .unset, .unset] [])) _
      refine XS.iload X813.here hx rfl (hb hby at_159) rfl ?_
      show Steps p.tables e below (T813.setTop (mkF m 161 #[.val (.long p0), .second, .val (.long p1), .second, iv p2, iv p3, iv p4, iv p5, iv (3 : Int32), iv ci, .val (.long (ci.toInt64)), .second, .val (.long (rr.toInt64)), .second, .val (.long (-(ci.toInt64))), .second, .val (.long (((p3.toInt64) * (-(ci.toInt64))) + (rr.toInt64))), .second, rv b799, .val (.double (FP.ddiv (FP.l2d (((p3.toInt64) * (-(ci.toInt64))) + (rr.toInt64))) (FP.l2d (-(ci.toInt64))))), .second, .unset, .unset] [(.int p3)])) _
      refine XS.i2dS X813.here hx rfl (hb hby at_161) rfl rfl ?_
      show Steps p.tables e below (T813.setTop (mkF m 162 #[.val (.long p0), .second, .val (.long p1), .second, iv p2, iv p3, iv p4, iv p5, iv (3 : Int32), iv ci, .val (.long (ci.toInt64)), .second, .val (.long (rr.toInt64)), .second, .val (.long (-(ci.toInt64))), .second, .val (.long (((p3.toInt64) * (-(ci.toInt64))) + (rr.toInt64))), .second, rv b799, .val (.double (FP.ddiv (FP.l2d (((p3.toInt64) * (-(ci.toInt64))) + (rr.toInt64))) (FP.l2d (-(ci.toInt64))))), .second, .unset, .unset] [(.double (FP.i2d p3))])) _
      refine XS.dstore X813.here hx rfl (hb hby at_162) rfl (l' := #[.val (.long p0), .second, .val (.long p1), .second, iv p2, iv p3, iv p4, iv p5, iv (3 : Int32), iv ci, .val (.long (ci.toInt64)), .second, .val (.long (rr.toInt64)), .second, .val (.long (-(ci.toInt64))), .second, .val (.long (((p3.toInt64) * (-(ci.toInt64))) + (rr.toInt64))), .second, rv b799, .val (.double (FP.ddiv (FP.l2d (((p3.toInt64) * (-(ci.toInt64))) + (rr.toInt64))) (FP.l2d (-(ci.toInt64))))), .second, .val (.double (FP.i2d p3)), .second]) rfl ?_
      show Steps p.tables e below (T813.setTop (mkF m 164 #[.val (.long p0), .second, .val (.long p1), .second, iv p2, iv p3, iv p4, iv p5, iv (3 : Int32), iv ci, .val (.long (ci.toInt64)), .second, .val (.long (rr.toInt64)), .second, .val (.long (-(ci.toInt64))), .second, .val (.long (((p3.toInt64) * (-(ci.toInt64))) + (rr.toInt64))), .second, rv b799, .val (.double (FP.ddiv (FP.l2d (((p3.toInt64) * (-(ci.toInt64))) + (rr.toInt64))) (FP.l2d (-(ci.toInt64))))), .second, .val (.double (FP.i2d p3)), .second] [])) _
      refine XS.lload X813.here hx rfl (hb hby at_164) rfl ?_
      show Steps p.tables e below (T813.setTop (mkF m 166 #[.val (.long p0), .second, .val (.long p1), .second, iv p2, iv p3, iv p4, iv p5, iv (3 : Int32), iv ci, .val (.long (ci.toInt64)), .second, .val (.long (rr.toInt64)), .second, .val (.long (-(ci.toInt64))), .second, .val (.long (((p3.toInt64) * (-(ci.toInt64))) + (rr.toInt64))), .second, rv b799, .val (.double (FP.ddiv (FP.l2d (((p3.toInt64) * (-(ci.toInt64))) + (rr.toInt64))) (FP.l2d (-(ci.toInt64))))), .second, .val (.double (FP.i2d p3)), .second] [(.long (rr.toInt64))])) _
      refine XS.lconst X813.here hx rfl (hb hby at_166) ?_
      show Steps p.tables e below (T813.setTop (mkF m 167 #[.val (.long p0), .second, .val (.long p1), .second, iv p2, iv p3, iv p4, iv p5, iv (3 : Int32), iv ci, .val (.long (ci.toInt64)), .second, .val (.long (rr.toInt64)), .second, .val (.long (-(ci.toInt64))), .second, .val (.long (((p3.toInt64) * (-(ci.toInt64))) + (rr.toInt64))), .second, rv b799, .val (.double (FP.ddiv (FP.l2d (((p3.toInt64) * (-(ci.toInt64))) + (rr.toInt64))) (FP.l2d (-(ci.toInt64))))), .second, .val (.double (FP.i2d p3)), .second] [(.long (0 : Int64)), (.long (rr.toInt64))])) _
      refine XS.lcmp X813.here hx rfl (hb hby at_167) rfl ?_
      exact kt
    by_cases hc816 : (lcmpW (rr.toInt64) (0 : Int64)) = (0 : Int32)
    · have pre817 : ∀ t, Steps p.tables e below (T813.setTop (mkF m 184 #[.val (.long p0), .second, .val (.long p1), .second, iv p2, iv p3, iv p4, iv p5, iv (3 : Int32), iv ci, .val (.long (ci.toInt64)), .second, .val (.long (rr.toInt64)), .second, .val (.long (-(ci.toInt64))), .second, .val (.long (((p3.toInt64) * (-(ci.toInt64))) + (rr.toInt64))), .second, rv b799, .val (.double (FP.ddiv (FP.l2d (((p3.toInt64) * (-(ci.toInt64))) + (rr.toInt64))) (FP.l2d (-(ci.toInt64))))), .second, .val (.double (FP.i2d p3)), .second] [(.int (1 : Int32))])) t → Steps p.tables e below (s₁.setTop (entryFrame m #[(.long p0), (.long p1), (.int p2), (.int p3), (.int p4), (.int p5)] maxLocals)) t := fun t kt => by
        refine pre815 _ ?_
        show Steps p.tables e below (T813.setTop (mkF m 168 #[.val (.long p0), .second, .val (.long p1), .second, iv p2, iv p3, iv p4, iv p5, iv (3 : Int32), iv ci, .val (.long (ci.toInt64)), .second, .val (.long (rr.toInt64)), .second, .val (.long (-(ci.toInt64))), .second, .val (.long (((p3.toInt64) * (-(ci.toInt64))) + (rr.toInt64))), .second, rv b799, .val (.double (FP.ddiv (FP.l2d (((p3.toInt64) * (-(ci.toInt64))) + (rr.toInt64))) (FP.l2d (-(ci.toInt64))))), .second, .val (.double (FP.i2d p3)), .second] [(.int (lcmpW (rr.toInt64) (0 : Int64)))])) _
        refine XS.ifNo X813.here hx rfl (hb hby at_168) rfl (XT.i0_ne_f hc816) ?_
        show Steps p.tables e below (T813.setTop (mkF m 171 #[.val (.long p0), .second, .val (.long p1), .second, iv p2, iv p3, iv p4, iv p5, iv (3 : Int32), iv ci, .val (.long (ci.toInt64)), .second, .val (.long (rr.toInt64)), .second, .val (.long (-(ci.toInt64))), .second, .val (.long (((p3.toInt64) * (-(ci.toInt64))) + (rr.toInt64))), .second, rv b799, .val (.double (FP.ddiv (FP.l2d (((p3.toInt64) * (-(ci.toInt64))) + (rr.toInt64))) (FP.l2d (-(ci.toInt64))))), .second, .val (.double (FP.i2d p3)), .second] [])) _
        refine XS.dload X813.here hx rfl (hb hby at_171) rfl ?_
        show Steps p.tables e below (T813.setTop (mkF m 173 #[.val (.long p0), .second, .val (.long p1), .second, iv p2, iv p3, iv p4, iv p5, iv (3 : Int32), iv ci, .val (.long (ci.toInt64)), .second, .val (.long (rr.toInt64)), .second, .val (.long (-(ci.toInt64))), .second, .val (.long (((p3.toInt64) * (-(ci.toInt64))) + (rr.toInt64))), .second, rv b799, .val (.double (FP.ddiv (FP.l2d (((p3.toInt64) * (-(ci.toInt64))) + (rr.toInt64))) (FP.l2d (-(ci.toInt64))))), .second, .val (.double (FP.i2d p3)), .second] [(.double (FP.ddiv (FP.l2d (((p3.toInt64) * (-(ci.toInt64))) + (rr.toInt64))) (FP.l2d (-(ci.toInt64)))))])) _
        refine XS.dload X813.here hx rfl (hb hby at_173) rfl ?_
        show Steps p.tables e below (T813.setTop (mkF m 175 #[.val (.long p0), .second, .val (.long p1), .second, iv p2, iv p3, iv p4, iv p5, iv (3 : Int32), iv ci, .val (.long (ci.toInt64)), .second, .val (.long (rr.toInt64)), .second, .val (.long (-(ci.toInt64))), .second, .val (.long (((p3.toInt64) * (-(ci.toInt64))) + (rr.toInt64))), .second, rv b799, .val (.double (FP.ddiv (FP.l2d (((p3.toInt64) * (-(ci.toInt64))) + (rr.toInt64))) (FP.l2d (-(ci.toInt64))))), .second, .val (.double (FP.i2d p3)), .second] [(.double (FP.i2d p3)), (.double (FP.ddiv (FP.l2d (((p3.toInt64) * (-(ci.toInt64))) + (rr.toInt64))) (FP.l2d (-(ci.toInt64)))))])) _
        refine XS.dcmpS X813.here hx rfl (hb hby at_175) rfl (v := (0 : Int32)) (own_ve (own_e (own_b3 hcb) (own_cn hcb.1) hc816) _) ?_
        show Steps p.tables e below (T813.setTop (mkF m 176 #[.val (.long p0), .second, .val (.long p1), .second, iv p2, iv p3, iv p4, iv p5, iv (3 : Int32), iv ci, .val (.long (ci.toInt64)), .second, .val (.long (rr.toInt64)), .second, .val (.long (-(ci.toInt64))), .second, .val (.long (((p3.toInt64) * (-(ci.toInt64))) + (rr.toInt64))), .second, rv b799, .val (.double (FP.ddiv (FP.l2d (((p3.toInt64) * (-(ci.toInt64))) + (rr.toInt64))) (FP.l2d (-(ci.toInt64))))), .second, .val (.double (FP.i2d p3)), .second] [(.int (0 : Int32))])) _
        refine XS.ifNo X813.here hx rfl (hb hby at_176) rfl (XT.i0_ne_f (by decide)) ?_
        show Steps p.tables e below (T813.setTop (mkF m 179 #[.val (.long p0), .second, .val (.long p1), .second, iv p2, iv p3, iv p4, iv p5, iv (3 : Int32), iv ci, .val (.long (ci.toInt64)), .second, .val (.long (rr.toInt64)), .second, .val (.long (-(ci.toInt64))), .second, .val (.long (((p3.toInt64) * (-(ci.toInt64))) + (rr.toInt64))), .second, rv b799, .val (.double (FP.ddiv (FP.l2d (((p3.toInt64) * (-(ci.toInt64))) + (rr.toInt64))) (FP.l2d (-(ci.toInt64))))), .second, .val (.double (FP.i2d p3)), .second] [])) _
        refine XS.iconst X813.here hx rfl (hb hby at_179) ?_
        show Steps p.tables e below (T813.setTop (mkF m 180 #[.val (.long p0), .second, .val (.long p1), .second, iv p2, iv p3, iv p4, iv p5, iv (3 : Int32), iv ci, .val (.long (ci.toInt64)), .second, .val (.long (rr.toInt64)), .second, .val (.long (-(ci.toInt64))), .second, .val (.long (((p3.toInt64) * (-(ci.toInt64))) + (rr.toInt64))), .second, rv b799, .val (.double (FP.ddiv (FP.l2d (((p3.toInt64) * (-(ci.toInt64))) + (rr.toInt64))) (FP.l2d (-(ci.toInt64))))), .second, .val (.double (FP.i2d p3)), .second] [(.int (1 : Int32))])) _
        refine XS.goto X813.here hx rfl (pc0 := 180) (pc' := 184) rfl (hb hby at_180) (by decide) (by decide) ?_
        exact kt
      obtain ⟨fs, hr, hrun, hended, hW, hsame⟩ := X813.leave (v := some (.int (1 : Int32))) (fun h => by rw [Bd.returns] at h; cases h)
      refine ⟨_, _, pre817 _ (retN X813 hx (t := .boolean) Bd.returns (by simp) (hb hby at_184) hr), hrun, hended, _, _, rfl, ?_, ⟨_, rfl⟩, hW, hsame.mono (by decide) (by decide)⟩
      show Q_law Z p0 p1 p2 p3 p4 p5 h0 n0 _ T813.heap _
      rw [e813]
      exact ⟨rfl, N813⟩
    · have pre818 : ∀ t, Steps p.tables e below (T813.setTop (mkF m 238 #[.val (.long p0), .second, .val (.long p1), .second, iv p2, iv p3, iv p4, iv p5, iv (3 : Int32), iv ci, .val (.long (ci.toInt64)), .second, .val (.long (rr.toInt64)), .second, .val (.long (-(ci.toInt64))), .second, .val (.long (((p3.toInt64) * (-(ci.toInt64))) + (rr.toInt64))), .second, rv b799, .val (.double (FP.ddiv (FP.l2d (((p3.toInt64) * (-(ci.toInt64))) + (rr.toInt64))) (FP.l2d (-(ci.toInt64))))), .second, .val (.double (FP.i2d p3)), .second] [(.int (1 : Int32))])) t → Steps p.tables e below (s₁.setTop (entryFrame m #[(.long p0), (.long p1), (.int p2), (.int p3), (.int p4), (.int p5)] maxLocals)) t := fun t kt => by
        refine pre815 _ ?_
        show Steps p.tables e below (T813.setTop (mkF m 168 #[.val (.long p0), .second, .val (.long p1), .second, iv p2, iv p3, iv p4, iv p5, iv (3 : Int32), iv ci, .val (.long (ci.toInt64)), .second, .val (.long (rr.toInt64)), .second, .val (.long (-(ci.toInt64))), .second, .val (.long (((p3.toInt64) * (-(ci.toInt64))) + (rr.toInt64))), .second, rv b799, .val (.double (FP.ddiv (FP.l2d (((p3.toInt64) * (-(ci.toInt64))) + (rr.toInt64))) (FP.l2d (-(ci.toInt64))))), .second, .val (.double (FP.i2d p3)), .second] [(.int (lcmpW (rr.toInt64) (0 : Int64)))])) _
        refine XS.ifYes X813.here hx rfl (pc0 := 168) (pc' := 185) rfl (hb hby at_168) rfl (XT.i0_ne_t hc816) (by decide) (by decide) ?_
        show Steps p.tables e below (T813.setTop (mkF m 185 #[.val (.long p0), .second, .val (.long p1), .second, iv p2, iv p3, iv p4, iv p5, iv (3 : Int32), iv ci, .val (.long (ci.toInt64)), .second, .val (.long (rr.toInt64)), .second, .val (.long (-(ci.toInt64))), .second, .val (.long (((p3.toInt64) * (-(ci.toInt64))) + (rr.toInt64))), .second, rv b799, .val (.double (FP.ddiv (FP.l2d (((p3.toInt64) * (-(ci.toInt64))) + (rr.toInt64))) (FP.l2d (-(ci.toInt64))))), .second, .val (.double (FP.i2d p3)), .second] [])) _
        refine XS.iload X813.here hx rfl (hb hby at_185) rfl ?_
        show Steps p.tables e below (T813.setTop (mkF m 187 #[.val (.long p0), .second, .val (.long p1), .second, iv p2, iv p3, iv p4, iv p5, iv (3 : Int32), iv ci, .val (.long (ci.toInt64)), .second, .val (.long (rr.toInt64)), .second, .val (.long (-(ci.toInt64))), .second, .val (.long (((p3.toInt64) * (-(ci.toInt64))) + (rr.toInt64))), .second, rv b799, .val (.double (FP.ddiv (FP.l2d (((p3.toInt64) * (-(ci.toInt64))) + (rr.toInt64))) (FP.l2d (-(ci.toInt64))))), .second, .val (.double (FP.i2d p3)), .second] [(.int (3 : Int32))])) _
        refine XS.iconst X813.here hx rfl (hb hby at_187) ?_
        show Steps p.tables e below (T813.setTop (mkF m 188 #[.val (.long p0), .second, .val (.long p1), .second, iv p2, iv p3, iv p4, iv p5, iv (3 : Int32), iv ci, .val (.long (ci.toInt64)), .second, .val (.long (rr.toInt64)), .second, .val (.long (-(ci.toInt64))), .second, .val (.long (((p3.toInt64) * (-(ci.toInt64))) + (rr.toInt64))), .second, rv b799, .val (.double (FP.ddiv (FP.l2d (((p3.toInt64) * (-(ci.toInt64))) + (rr.toInt64))) (FP.l2d (-(ci.toInt64))))), .second, .val (.double (FP.i2d p3)), .second] [(.int (2 : Int32)), (.int (3 : Int32))])) _
        refine XS.icmpYes X813.here hx rfl (pc0 := 188) (pc' := 215) rfl (hb hby at_188) rfl (XT.ii_ne_t (by decide)) (by decide) (by decide) ?_
        show Steps p.tables e below (T813.setTop (mkF m 215 #[.val (.long p0), .second, .val (.long p1), .second, iv p2, iv p3, iv p4, iv p5, iv (3 : Int32), iv ci, .val (.long (ci.toInt64)), .second, .val (.long (rr.toInt64)), .second, .val (.long (-(ci.toInt64))), .second, .val (.long (((p3.toInt64) * (-(ci.toInt64))) + (rr.toInt64))), .second, rv b799, .val (.double (FP.ddiv (FP.l2d (((p3.toInt64) * (-(ci.toInt64))) + (rr.toInt64))) (FP.l2d (-(ci.toInt64))))), .second, .val (.double (FP.i2d p3)), .second] [])) _
        refine XS.dload X813.here hx rfl (hb hby at_215) rfl ?_
        show Steps p.tables e below (T813.setTop (mkF m 217 #[.val (.long p0), .second, .val (.long p1), .second, iv p2, iv p3, iv p4, iv p5, iv (3 : Int32), iv ci, .val (.long (ci.toInt64)), .second, .val (.long (rr.toInt64)), .second, .val (.long (-(ci.toInt64))), .second, .val (.long (((p3.toInt64) * (-(ci.toInt64))) + (rr.toInt64))), .second, rv b799, .val (.double (FP.ddiv (FP.l2d (((p3.toInt64) * (-(ci.toInt64))) + (rr.toInt64))) (FP.l2d (-(ci.toInt64))))), .second, .val (.double (FP.i2d p3)), .second] [(.double (FP.i2d p3))])) _
        refine XS.dconst1 X813.here hx rfl (hb hby at_217) (v := (4607182418800017408 : UInt64)) rfl ?_
        show Steps p.tables e below (T813.setTop (mkF m 218 #[.val (.long p0), .second, .val (.long p1), .second, iv p2, iv p3, iv p4, iv p5, iv (3 : Int32), iv ci, .val (.long (ci.toInt64)), .second, .val (.long (rr.toInt64)), .second, .val (.long (-(ci.toInt64))), .second, .val (.long (((p3.toInt64) * (-(ci.toInt64))) + (rr.toInt64))), .second, rv b799, .val (.double (FP.ddiv (FP.l2d (((p3.toInt64) * (-(ci.toInt64))) + (rr.toInt64))) (FP.l2d (-(ci.toInt64))))), .second, .val (.double (FP.i2d p3)), .second] [(.double (4607182418800017408 : UInt64)), (.double (FP.i2d p3))])) _
        refine XS.dsubS X813.here hx rfl (hb hby at_218) rfl (own_sb _) rfl ?_
        show Steps p.tables e below (T813.setTop (mkF m 219 #[.val (.long p0), .second, .val (.long p1), .second, iv p2, iv p3, iv p4, iv p5, iv (3 : Int32), iv ci, .val (.long (ci.toInt64)), .second, .val (.long (rr.toInt64)), .second, .val (.long (-(ci.toInt64))), .second, .val (.long (((p3.toInt64) * (-(ci.toInt64))) + (rr.toInt64))), .second, rv b799, .val (.double (FP.ddiv (FP.l2d (((p3.toInt64) * (-(ci.toInt64))) + (rr.toInt64))) (FP.l2d (-(ci.toInt64))))), .second, .val (.double (FP.i2d p3)), .second] [(.double (FP.dsub (FP.i2d p3) (4607182418800017408 : UInt64)))])) _
        refine XS.dload X813.here hx rfl (hb hby at_219) rfl ?_
        show Steps p.tables e below (T813.setTop (mkF m 221 #[.val (.long p0), .second, .val (.long p1), .second, iv p2, iv p3, iv p4, iv p5, iv (3 : Int32), iv ci, .val (.long (ci.toInt64)), .second, .val (.long (rr.toInt64)), .second, .val (.long (-(ci.toInt64))), .second, .val (.long (((p3.toInt64) * (-(ci.toInt64))) + (rr.toInt64))), .second, rv b799, .val (.double (FP.ddiv (FP.l2d (((p3.toInt64) * (-(ci.toInt64))) + (rr.toInt64))) (FP.l2d (-(ci.toInt64))))), .second, .val (.double (FP.i2d p3)), .second] [(.double (FP.ddiv (FP.l2d (((p3.toInt64) * (-(ci.toInt64))) + (rr.toInt64))) (FP.l2d (-(ci.toInt64))))), (.double (FP.dsub (FP.i2d p3) (4607182418800017408 : UInt64)))])) _
        refine XS.dcmpS X813.here hx rfl (hb hby at_221) rfl (v := (-1 : Int32)) (own_vl (own_3 hcb hrb hc816).1 _) ?_
        show Steps p.tables e below (T813.setTop (mkF m 222 #[.val (.long p0), .second, .val (.long p1), .second, iv p2, iv p3, iv p4, iv p5, iv (3 : Int32), iv ci, .val (.long (ci.toInt64)), .second, .val (.long (rr.toInt64)), .second, .val (.long (-(ci.toInt64))), .second, .val (.long (((p3.toInt64) * (-(ci.toInt64))) + (rr.toInt64))), .second, rv b799, .val (.double (FP.ddiv (FP.l2d (((p3.toInt64) * (-(ci.toInt64))) + (rr.toInt64))) (FP.l2d (-(ci.toInt64))))), .second, .val (.double (FP.i2d p3)), .second] [(.int (-1 : Int32))])) _
        refine XS.ifNo X813.here hx rfl (hb hby at_222) rfl (XT.i0_ge_f (by decide)) ?_
        show Steps p.tables e below (T813.setTop (mkF m 225 #[.val (.long p0), .second, .val (.long p1), .second, iv p2, iv p3, iv p4, iv p5, iv (3 : Int32), iv ci, .val (.long (ci.toInt64)), .second, .val (.long (rr.toInt64)), .second, .val (.long (-(ci.toInt64))), .second, .val (.long (((p3.toInt64) * (-(ci.toInt64))) + (rr.toInt64))), .second, rv b799, .val (.double (FP.ddiv (FP.l2d (((p3.toInt64) * (-(ci.toInt64))) + (rr.toInt64))) (FP.l2d (-(ci.toInt64))))), .second, .val (.double (FP.i2d p3)), .second] [])) _
        refine XS.dload X813.here hx rfl (hb hby at_225) rfl ?_
        show Steps p.tables e below (T813.setTop (mkF m 227 #[.val (.long p0), .second, .val (.long p1), .second, iv p2, iv p3, iv p4, iv p5, iv (3 : Int32), iv ci, .val (.long (ci.toInt64)), .second, .val (.long (rr.toInt64)), .second, .val (.long (-(ci.toInt64))), .second, .val (.long (((p3.toInt64) * (-(ci.toInt64))) + (rr.toInt64))), .second, rv b799, .val (.double (FP.ddiv (FP.l2d (((p3.toInt64) * (-(ci.toInt64))) + (rr.toInt64))) (FP.l2d (-(ci.toInt64))))), .second, .val (.double (FP.i2d p3)), .second] [(.double (FP.ddiv (FP.l2d (((p3.toInt64) * (-(ci.toInt64))) + (rr.toInt64))) (FP.l2d (-(ci.toInt64)))))])) _
        refine XS.dload X813.here hx rfl (hb hby at_227) rfl ?_
        show Steps p.tables e below (T813.setTop (mkF m 229 #[.val (.long p0), .second, .val (.long p1), .second, iv p2, iv p3, iv p4, iv p5, iv (3 : Int32), iv ci, .val (.long (ci.toInt64)), .second, .val (.long (rr.toInt64)), .second, .val (.long (-(ci.toInt64))), .second, .val (.long (((p3.toInt64) * (-(ci.toInt64))) + (rr.toInt64))), .second, rv b799, .val (.double (FP.ddiv (FP.l2d (((p3.toInt64) * (-(ci.toInt64))) + (rr.toInt64))) (FP.l2d (-(ci.toInt64))))), .second, .val (.double (FP.i2d p3)), .second] [(.double (FP.i2d p3)), (.double (FP.ddiv (FP.l2d (((p3.toInt64) * (-(ci.toInt64))) + (rr.toInt64))) (FP.l2d (-(ci.toInt64)))))])) _
        refine XS.dcmpS X813.here hx rfl (hb hby at_229) rfl (v := (-1 : Int32)) (own_vl (own_3 hcb hrb hc816).2 _) ?_
        show Steps p.tables e below (T813.setTop (mkF m 230 #[.val (.long p0), .second, .val (.long p1), .second, iv p2, iv p3, iv p4, iv p5, iv (3 : Int32), iv ci, .val (.long (ci.toInt64)), .second, .val (.long (rr.toInt64)), .second, .val (.long (-(ci.toInt64))), .second, .val (.long (((p3.toInt64) * (-(ci.toInt64))) + (rr.toInt64))), .second, rv b799, .val (.double (FP.ddiv (FP.l2d (((p3.toInt64) * (-(ci.toInt64))) + (rr.toInt64))) (FP.l2d (-(ci.toInt64))))), .second, .val (.double (FP.i2d p3)), .second] [(.int (-1 : Int32))])) _
        refine XS.ifNo X813.here hx rfl (hb hby at_230) rfl (XT.i0_ge_f (by decide)) ?_
        show Steps p.tables e below (T813.setTop (mkF m 233 #[.val (.long p0), .second, .val (.long p1), .second, iv p2, iv p3, iv p4, iv p5, iv (3 : Int32), iv ci, .val (.long (ci.toInt64)), .second, .val (.long (rr.toInt64)), .second, .val (.long (-(ci.toInt64))), .second, .val (.long (((p3.toInt64) * (-(ci.toInt64))) + (rr.toInt64))), .second, rv b799, .val (.double (FP.ddiv (FP.l2d (((p3.toInt64) * (-(ci.toInt64))) + (rr.toInt64))) (FP.l2d (-(ci.toInt64))))), .second, .val (.double (FP.i2d p3)), .second] [])) _
        refine XS.iconst X813.here hx rfl (hb hby at_233) ?_
        show Steps p.tables e below (T813.setTop (mkF m 234 #[.val (.long p0), .second, .val (.long p1), .second, iv p2, iv p3, iv p4, iv p5, iv (3 : Int32), iv ci, .val (.long (ci.toInt64)), .second, .val (.long (rr.toInt64)), .second, .val (.long (-(ci.toInt64))), .second, .val (.long (((p3.toInt64) * (-(ci.toInt64))) + (rr.toInt64))), .second, rv b799, .val (.double (FP.ddiv (FP.l2d (((p3.toInt64) * (-(ci.toInt64))) + (rr.toInt64))) (FP.l2d (-(ci.toInt64))))), .second, .val (.double (FP.i2d p3)), .second] [(.int (1 : Int32))])) _
        refine XS.goto X813.here hx rfl (pc0 := 234) (pc' := 238) rfl (hb hby at_234) (by decide) (by decide) ?_
        exact kt
      obtain ⟨fs, hr, hrun, hended, hW, hsame⟩ := X813.leave (v := some (.int (1 : Int32))) (fun h => by rw [Bd.returns] at h; cases h)
      refine ⟨_, _, pre818 _ (retN X813 hx (t := .boolean) Bd.returns (by simp) (hb hby at_238) hr), hrun, hended, _, _, rfl, ?_, ⟨_, rfl⟩, hW, hsame.mono (by decide) (by decide)⟩
      show Q_law Z p0 p1 p2 p3 p4 p5 h0 n0 _ T813.heap _
      rw [e813]
      exact ⟨rfl, N813⟩
set_option maxRecDepth 65536 in
set_option maxHeartbeats 40000000 in
theorem comes_1 {Post : Tables → Env → Array Value → State → Outcome → State → Prop} (hpost : ∀ tb e args s v u, (limb_1_1.after args s (.returned v) u = true ∧ limb_1_2.after args s (.returned v) u = true ∧ True) → FrameEnd s (.returned v) u (Jvm.fieldLocs frame_1_writes args s ++ Jvm.arrayLocs frame_1_arrays args s ++ Jvm.staticLocs frame_1_statics s) 16 128 → Post tb e args s (.returned v) u) :
    ArmFor flags0 classFile x code maxLocals ret World_1 tables_1 room_1 Calls_1 rest_1 Pre_1 Post := by
  intro l hfl _ _ p e ha hc hk s m args below hf hA hF happ hP
  obtain ⟨hcalls, hrest, hpre⟩ := hP
  obtain ⟨-, -, -, hnamed, -, -, -, hat⟩ := (Spec.applies_iff hf).mp happ
  obtain ⟨hg, hn⟩ := and_e (Cond.before_iff.mp (show (Jvm.Cond.and given_1 narrow_1).before args s = true from hpre))
  obtain ⟨given_1_2, given_1_3⟩ := and_e hg
  obtain ⟨given_1_4, given_1_5⟩ := and_e given_1_3
  obtain ⟨given_1_6, given_1_7⟩ := and_e given_1_5
  obtain ⟨given_1_8, given_1_9⟩ := and_e given_1_7
  obtain ⟨given_1_10, given_1_11⟩ := and_e given_1_9
  obtain ⟨given_1_12, given_1_13⟩ := and_e given_1_11
  obtain ⟨w0, w1, w2, w3, w4, w5, rfl⟩ : ∃ w0 w1 w2 w3 w4 w5 : Value, args = #[w0, w1, w2, w3, w4, w5] := by
    have hs : args.size = 6 := by simpa [Cond.value, given_1] using given_1_2
    obtain ⟨L⟩ := args
    match L, hs with
    | [w0, w1, w2, w3, w4, w5], _ => exact ⟨w0, w1, w2, w3, w4, w5, rfl⟩
  have hw := fun d (hd : d ∈ tables_1) => atoms_spec (ws := Jvm.Cond.code x code maxLocals ret :: tables_1) hat d (List.mem_cons_of_mem _ hd)
  have W := fun {d : Jvm.Cond} (i : Nat) (q : tables_1[i]? = some d) => hw d (List.mem_of_getElem? q)
  have hfit : Fit s := fun {y c} hc i hi => by
    obtain ⟨ha, rfl⟩ := Array.getElem?_eq_some_iff.mp hc
    have q := List.all_eq_true.mp ((Array.all_eq_true_iff_forall_mem.mp hF) _ (Array.getElem_mem ha)) i (List.mem_range.mpr hi)
    simpa [Array.getElem?_eq_getElem hi] using q
  obtain ⟨i0, ei0⟩ := isL_v given_1_4
  obtain rfl : w0 = (.long i0) := Option.some.inj ei0
  obtain ⟨i1, ei1⟩ := isL_v given_1_6
  obtain rfl : w1 = (.long i1) := Option.some.inj ei1
  obtain ⟨i2, ei2⟩ := is_v given_1_8
  obtain rfl : w2 = (.int i2) := Option.some.inj ei2
  obtain ⟨i3, ei3⟩ := is_v given_1_10
  obtain rfl : w3 = (.int i3) := Option.some.inj ei3
  obtain ⟨i4, ei4⟩ := is_v given_1_12
  obtain rfl : w4 = (.int i4) := Option.some.inj ei4
  obtain ⟨i5, ei5⟩ := is_v given_1_13
  obtain rfl : w5 = (.int i5) := Option.some.inj ei5
  obtain ⟨n, o, h1, h2, h3, _, L, rfl, ⟨rfl, N⟩, hq⟩ := rm_law l s _ hw tables_1 i0 i1 i2 i3 i4 i5 s.heap s.heap.size (Old.start s)  p e ha hc hk s m _ below hf ((Spec.applies_iff_loose hf).mp happ).1 ⟨rfl, State.Warmed39.refl s, rfl⟩ trivial
  refine ⟨n, _, h1, h2, h3, hpost _ _ _ _ _ _ ⟨Cond.after_iff.mpr rfl, Cond.after_iff.mpr (eq_i res_at (Term.int_eval (1)) rfl), trivial⟩ ⟨hq.1, hq.2.1, (hq.2.2.sift fun y hy => Or.inr (N y hy)).mono (by decide) (by decide)⟩⟩
theorem main_1_1 : Claimed_1_1 := comes_1 fun _ _ _ _ _ _ h hF => ⟨h.1, hF⟩
theorem main_1_2 : Claimed_1_2 := comes_1 fun _ _ _ _ _ _ h hF => ⟨h.2.1, hF⟩
end Jvm.Pilot.@@N@@
namespace Jvm.Pilot.@@N@@
open Jvm Jvm.ClassFile Sem Op Lib Jvm.Free Jvm.Stand Jvm.Pilot.@@N@@.Jvm.D
/-! MADE BY PROGRAM (witnessworld.py) out of the Statement's table words and the real class files: 7 classes; the members and pool entries that the words name. The judged class is class 1, her method 1. -/
namespace start1
open Jvm.ClassFile
def u (s : String) : CpInfo := .utf8 (stringToUtf16 s)
/-- a pool by its gaps: so many unusable entries, then the entry; so many at the end -/
def gap : Nat → List CpInfo → List CpInfo
  | 0, r => r
  | n + 1, r => .unusable :: gap n r
def poolList (es : List (Nat × CpInfo)) (last : Nat) : List CpInfo := es.foldr (fun e r => gap e.1 (e.2 :: r)) (gap last [])
def pool (es : List (Nat × CpInfo)) (last : Nat) : Array CpInfo := ⟨poolList es last⟩
def fileOf (pool : Array CpInfo) (this : Nat) (attrs : Array Attribute := #[]) (ms : Array MethodInfo := #[]) (fl : Nat := 33) (sup : Nat := 0) (ifs : Array Nat := #[]) (fds : Array FieldInfo := #[]) : ClassFile where
  minorVersion := 0
  majorVersion := 65
  constantPool := pool
  accessFlags := fl
  thisClass := this
  superClass := sup
  interfaces := ifs
  fields := fds
  methods := ms
  attributes := attrs
def plain (name : String) (sup : Option ClassId) : Class where
  name := name
  kind := .ordinary
  loader := none
  accessFlags := 33
  super := sup
  interfaces := #[]
  cf := none
  fields := #[]
  methods := #[]
  instanceTypes := #[]
  staticTypes := #[]
  resolved := #[]
  callSites := []
  init := .initialized
  statics := none
  mirror := none

def pool0 : Array CpInfo := pool [(5, u "<init>"), (0, u "()V"), (1, .class_ 10), (1, u "java/lang/Object")] 113

def k0c0 : Code := { maxStack := 0, maxLocals := 1, code := object_method_1_code, exceptionTable := #[], attributes := #[] }
def k0m0 : Method := { name := "<init>", desc := "()V", sig := { parameters := [], returnType := none }, accessFlags := 1, code := some k0c0 }
/-- java/lang/Object -/
def k0 : Class := { plain "java/lang/Object" none with
  accessFlags := 33
  interfaces := #[]
  cf := some (fileOf pool0 8 #[] #[{ accessFlags := 1, nameIndex := 5, descriptorIndex := 6, attributes := #[] }] 33 0 #[] #[])
  fields := #[]
  methods := #[k0m0]
  instanceTypes := #[]
  staticTypes := #[]
  resolved := Array.replicate 124 none
  statics := none }

def pool1 : Array CpInfo := pool [(2, .class_ 4), (1, u "java/lang/Object"), (0, u "<init>"), (0, u "()V"), (0, .class_ 8), (0, u "com/example/osier/osier/SecondFigures"), (0, .methodref 7 10), (0, .nameAndType 5 11), (0, u "(JJJJJJJ)V"), (0, .methodref 7 13), (0, .nameAndType 14 15), (0, u "averageResponseTimeMillis"), (0, u "()D"), (0, .integer 1048575), (0, .integer 2147483647), (0, .class_ 19), (0, u "com/example/osier/osier/SecondFiguresAverageResponseTimeMillisPinLaw"), (2, u "law"), (0, u "(JJIIII)Z")] 3

def k1m0 : Method := { name := "<init>", desc := "()V", sig := { parameters := [], returnType := none }, accessFlags := 1, code := none }
def k1c1 : Code := { maxStack := 16, maxLocals := 23, code := code, exceptionTable := #[], attributes := #[] }
def k1m1 : Method := { name := "law", desc := "(JJIIII)Z", sig := { parameters := [.long, .long, .int, .int, .int, .int], returnType := some .boolean }, accessFlags := 9, code := some k1c1 }
/-- com/example/osier/osier/SecondFiguresAverageResponseTimeMillisPinLaw -/
def k1 : Class := { plain "com/example/osier/osier/SecondFiguresAverageResponseTimeMillisPinLaw" (some 0) with
  accessFlags := 49
  interfaces := #[]
  cf := some (fileOf pool1 18 #[] #[{ accessFlags := 1, nameIndex := 5, descriptorIndex := 6, attributes := #[] }, { accessFlags := 9, nameIndex := 22, descriptorIndex := 23, attributes := #[] }] 49 2 #[] #[])
  fields := #[]
  methods := #[k1m0, k1m1]
  instanceTypes := #[]
  staticTypes := #[]
  resolved := Array.replicate 27 none
  statics := none }

def pool2 : Array CpInfo := pool [(1, .methodref 2 3), (0, .class_ 4), (0, .nameAndType 5 6), (0, u "java/lang/Object"), (0, u "<init>"), (0, u "()V"), (0, .fieldref 8 9), (0, .class_ 10), (0, .nameAndType 11 12), (0, u "com/example/osier/osier/SecondFigures"), (0, u "startMillis"), (0, u "J"), (0, .fieldref 8 14), (0, .nameAndType 15 12), (0, u "admitted"), (0, .fieldref 8 17), (0, .nameAndType 18 12), (0, u "refused"), (0, .fieldref 8 20), (0, .nameAndType 21 12), (0, u "completed"), (0, .fieldref 8 23), (0, .nameAndType 24 12), (0, u "errors"), (0, .fieldref 8 26), (0, .nameAndType 27 12), (0, u "responseTimeMillis"), (0, .fieldref 8 29), (0, .nameAndType 30 12), (0, u "inside"), (2, u "averageResponseTimeMillis"), (0, u "()D"), (4, u "(JJJJJJJ)V")] 23

def k2c0 : Code := { maxStack := 3, maxLocals := 15, code := prog_70_method_1_code, exceptionTable := #[], attributes := #[] }
def k2m0 : Method := { name := "<init>", desc := "(JJJJJJJ)V", sig := { parameters := [.long, .long, .long, .long, .long, .long, .long], returnType := none }, accessFlags := 0, code := some k2c0 }
def k2c1 : Code := { maxStack := 4, maxLocals := 1, code := prog_70_method_8_code, exceptionTable := #[], attributes := #[] }
def k2m1 : Method := { name := "averageResponseTimeMillis", desc := "()D", sig := { parameters := [], returnType := some .double }, accessFlags := 1, code := some k2c1 }
/-- com/example/osier/osier/SecondFigures -/
def k2 : Class := { plain "com/example/osier/osier/SecondFigures" (some 0) with
  accessFlags := 33
  interfaces := #[]
  cf := some (fileOf pool2 8 #[] #[{ accessFlags := 0, nameIndex := 5, descriptorIndex := 39, attributes := #[] }, { accessFlags := 1, nameIndex := 33, descriptorIndex := 34, attributes := #[] }] 33 2 #[] #[{ accessFlags := 18, nameIndex := 11, descriptorIndex := 12, attributes := #[] }, { accessFlags := 18, nameIndex := 15, descriptorIndex := 12, attributes := #[] }, { accessFlags := 18, nameIndex := 18, descriptorIndex := 12, attributes := #[] }, { accessFlags := 18, nameIndex := 21, descriptorIndex := 12, attributes := #[] }, { accessFlags := 18, nameIndex := 24, descriptorIndex := 12, attributes := #[] }, { accessFlags := 18, nameIndex := 27, descriptorIndex := 12, attributes := #[] }, { accessFlags := 18, nameIndex := 30, descriptorIndex := 12, attributes := #[] }])
  fields := #[{ name := "startMillis", type := .long, accessFlags := 18, slot := 0, constantValue := 0 }, { name := "admitted", type := .long, accessFlags := 18, slot := 1, constantValue := 0 }, { name := "refused", type := .long, accessFlags := 18, slot := 2, constantValue := 0 }, { name := "completed", type := .long, accessFlags := 18, slot := 3, constantValue := 0 }, { name := "errors", type := .long, accessFlags := 18, slot := 4, constantValue := 0 }, { name := "responseTimeMillis", type := .long, accessFlags := 18, slot := 5, constantValue := 0 }, { name := "inside", type := .long, accessFlags := 18, slot := 6, constantValue := 0 }]
  methods := #[k2m0, k2m1]
  instanceTypes := #[.long, .long, .long, .long, .long, .long, .long]
  staticTypes := #[]
  resolved := Array.replicate 63 none
  statics := none }

def pool3 : Array CpInfo := pool [(1, u "java/lang/Cloneable"), (0, .class_ 1), (0, u "java/lang/Object"), (0, .class_ 3)] 3

/-- java/lang/Cloneable -/
def k3 : Class := { plain "java/lang/Cloneable" (some 0) with
  accessFlags := 1537
  interfaces := #[]
  cf := some (fileOf pool3 2 #[] #[] 1537 4 #[] #[])
  fields := #[]
  methods := #[]
  instanceTypes := #[]
  staticTypes := #[]
  resolved := Array.replicate 8 none
  statics := none }

def pool4 : Array CpInfo := pool [(1, u "java/io/Serializable"), (0, .class_ 1), (0, u "java/lang/Object"), (0, .class_ 3)] 3

/-- java/io/Serializable -/
def k4 : Class := { plain "java/io/Serializable" (some 0) with
  accessFlags := 1537
  interfaces := #[]
  cf := some (fileOf pool4 2 #[] #[] 1537 4 #[] #[])
  fields := #[]
  methods := #[]
  instanceTypes := #[]
  staticTypes := #[]
  resolved := Array.replicate 8 none
  statics := none }

/-- the primitive byte -/
def k5 : Class := { plain "byte" none with kind := .primitive 'B', accessFlags := 0x411 }
/-- [B -/
def k6 : Class := { plain "[B" (some 0) with kind := .array 5 .byte, interfaces := #[3, 4], accessFlags := 1041 }

def heap : Heap := #[]
def classes : Array Class := #[k0, k1, k2, k3, k4, k5, k6]
def interned : List (Array UInt16 × Addr) := []
def slotsUsed : Nat := 0
def theMethod : MethodId := ⟨1, 1⟩
def args0 : Array Value := #[.long 5, .long 4, .int 5, .int 4, .int 3, .int 5]
def aboutOver (below : List Frame) : State where
  vm := { classes := classes, interned := interned.toArray }
  heap := heap
  slotsUsed := slotsUsed
  threads := #[{ frames := .invoking theMethod args0 :: below }]
def below0 : List Frame := [.native { method := ⟨0, 0⟩, args := #[] }]
def about1 : State := aboutOver below0
def p0 : Program := .bare "" "" ""
def e0 : Env := launch0.env 0 0 0
theorem w_frames : about1.frames = Frame.invoking theMethod args0 :: below0 := rfl
set_option maxRecDepth 65536 in
theorem w_args : argsFit about1.vm theMethod args0 = true := by decide +kernel
set_option maxRecDepth 65536 in
theorem w_heap : heapFits about1 = true := by decide +kernel
set_option maxRecDepth 65536 in
theorem w_runnable : about1.curStatus? = some .runnable := by decide +kernel
set_option maxRecDepth 65536 in
theorem w_alone : about1.alone = true := by decide +kernel
set_option maxRecDepth 65536 in
theorem w_named : about1.methodNamed? x = some theMethod := by decide +kernel
set_option maxRecDepth 65536 in
theorem w_hears : about1.hears theMethod below0 = true := by decide +kernel
set_option maxRecDepth 65536 in
theorem w_ripe : about1.ripe theMethod args0 below0 = true := by decide +kernel
theorem w_running : about1.status = .running := rfl
set_option maxRecDepth 65536 in
theorem w_room : about1.hasRoom e0.platform room_1 = true :=
  launch0.hasRoom_least _ room_1 (by decide +kernel) (by decide +kernel) (by decide +kernel) (by decide +kernel) (by decide +kernel) (by decide +kernel)
theorem allAtoms_all (ts : List Jvm.Cond) (a : Array Jvm.Value) (st : Jvm.State) : (allAtoms ts).before a st = ts.all (fun c => c.before a st) := by
  induction ts with
  | nil => rfl
  | cons c t ih =>
    show (Jvm.Cond.and c (allAtoms t)).before a st = _
    rw [Jvm.Cond.before_and, ih, List.all_cons]
def words1 : List Jvm.Cond := Jvm.Cond.code x code maxLocals ret :: tables_1
/-- a 'code' word, met by the world's own term for the bytes: nothing is compared byte by byte -/
theorem code_word {y : MethodName} {bytes : ByteArray} {mx : Nat} {rt : Option FieldType} {a : Array Value} {s : State} {m : MethodId} {meth : Method} {c : Code} (h1 : s.methodNamed? y = some m) (h2 : s.vm.method? m = some meth) (h3 : meth.code = some c) (h4 : c.code = bytes)
    (h5 : (c.maxLocals == mx && c.exceptionTable.isEmpty && decide (c.maxStack ≤ mostOperands) && decide (meth.sig.returnType = rt) && !meth.locks && decide (parseMethodDescriptor y.desc = some meth.sig)) = true) : (Jvm.Cond.code y bytes mx rt).before a s = true := by
  simp only [Bool.and_eq_true, beq_iff_eq, Bool.not_eq_true', decide_eq_true_eq] at h5
  obtain ⟨⟨⟨⟨⟨g1, g2⟩, g3⟩, g4⟩, g5⟩, g6⟩ := h5
  simp [Cond.before, Cond.holds, Cond.value, h1, h2, h3, h4, g1, g2, g3, g4, g5, g6]
def isCode : Jvm.Cond → Bool
  | .code _ _ _ _ => true
  | _ => false
theorem all_split {L : List Jvm.Cond} {P : Jvm.Cond → Bool} (h1 : L.all (fun c => isCode c || P c) = true) (h2 : ∀ c ∈ L.filter isCode, P c = true) : L.all P = true := by
  refine List.all_eq_true.mpr fun c hc => ?_
  have h := List.all_eq_true.mp h1 c hc
  rcases Bool.eq_false_or_eq_true (isCode c) with hi | hi
  · exact h2 c (List.mem_filter.mpr ⟨hc, hi⟩)
  · simpa [hi] using h
set_option maxRecDepth 65536 in
theorem w_c0 : (Jvm.Cond.code x code maxLocals ret).before args0 about1 = true := code_word (m := ⟨1, 1⟩) (meth := k1m1) (c := k1c1) (by decide +kernel) rfl rfl rfl (by decide +kernel)
set_option maxRecDepth 65536 in
theorem w_c1 : (Jvm.Cond.code ({ cls := "com/example/osier/osier/SecondFigures", name := "<init>", desc := "(JJJJJJJ)V" } : Jvm.MethodName) prog_70_method_1_code (15 : Nat) (Option.none : Option Jvm.ClassFile.FieldType)).before args0 about1 = true := code_word (m := ⟨2, 0⟩) (meth := k2m0) (c := k2c0) (by decide +kernel) rfl rfl rfl (by decide +kernel)
set_option maxRecDepth 65536 in
theorem w_c2 : (Jvm.Cond.code ({ cls := "java/lang/Object", name := "<init>", desc := "()V" } : Jvm.MethodName) object_method_1_code (1 : Nat) (Option.none : Option Jvm.ClassFile.FieldType)).before args0 about1 = true := code_word (m := ⟨0, 0⟩) (meth := k0m0) (c := k0c0) (by decide +kernel) rfl rfl rfl (by decide +kernel)
set_option maxRecDepth 65536 in
theorem w_c3 : (Jvm.Cond.code ({ cls := "com/example/osier/osier/SecondFigures", name := "averageResponseTimeMillis", desc := "()D" } : Jvm.MethodName) prog_70_method_8_code (1 : Nat) (Option.some Jvm.ClassFile.FieldType.double)).before args0 about1 = true := code_word (m := ⟨2, 1⟩) (meth := k2m1) (c := k2c1) (by decide +kernel) rfl rfl rfl (by decide +kernel)
def codes1 : List Jvm.Cond := [Jvm.Cond.code x code maxLocals ret, Jvm.Cond.code ({ cls := "com/example/osier/osier/SecondFigures", name := "<init>", desc := "(JJJJJJJ)V" } : Jvm.MethodName) prog_70_method_1_code (15 : Nat) (Option.none : Option Jvm.ClassFile.FieldType), Jvm.Cond.code ({ cls := "java/lang/Object", name := "<init>", desc := "()V" } : Jvm.MethodName) object_method_1_code (1 : Nat) (Option.none : Option Jvm.ClassFile.FieldType), Jvm.Cond.code ({ cls := "com/example/osier/osier/SecondFigures", name := "averageResponseTimeMillis", desc := "()D" } : Jvm.MethodName) prog_70_method_8_code (1 : Nat) (Option.some Jvm.ClassFile.FieldType.double)]
set_option maxRecDepth 65536 in
theorem codes_eq : words1.filter isCode = codes1 := rfl
theorem w_codes : ∀ c ∈ words1.filter isCode, c.before args0 about1 = true := by
  rw [codes_eq]
  intro c hc
  simp only [codes1, List.mem_cons, List.not_mem_nil, or_false] at hc
  rcases hc with rfl | rfl | rfl | rfl
  · exact w_c0
  · exact w_c1
  · exact w_c2
  · exact w_c3
set_option maxRecDepth 65536 in
theorem w_t1 : (words1.take 24).all (fun c => isCode c || c.before args0 about1) = true := by decide +kernel
set_option maxRecDepth 65536 in
theorem w_t2 : (words1.drop 24).all (fun c => isCode c || c.before args0 about1) = true := by decide +kernel
theorem w_tables : (allAtoms (Jvm.Cond.code x code maxLocals ret :: tables_1)).before args0 about1 = true := by
  rw [allAtoms_all]
  show words1.all (fun c => c.before args0 about1) = true
  refine all_split ?_ w_codes
  rw [← List.take_append_drop 24 words1, List.all_append, w_t1, w_t2]
  rfl
set_option maxRecDepth 65536 in
theorem w_case : (Jvm.Cond.and given_1 narrow_1).before args0 about1 = true := by decide +kernel
theorem w_applies : (headSpec (Jvm.Cond.code x code maxLocals ret :: tables_1) room_1).applies x e0.platform about1 = true :=
  (Spec.applies_iff w_frames).mpr ⟨w_running, w_runnable, w_alone, w_named, w_hears, w_ripe, w_room, w_tables⟩
theorem atStart : AtStart classFile x code maxLocals ret World_1 tables_1 room_1 Calls_1 rest_1 Pre_1 launch0 p0 e0 about1 theMethod args0 below0 :=
  ⟨lists_1, trivial, launch0.admits_env _ _ _, launch0.least_env, fairChoices_fair.cas, fairChoices_fair.clock, w_frames, w_args, w_heap, w_applies, trivial, trivial, w_case⟩
end start1
theorem witness_1 : WitnessClaimed_1 := ⟨start1.p0, start1.e0, start1.about1, start1.theMethod, start1.args0, start1.below0, start1.atStart⟩
end Jvm.Pilot.@@N@@
