import JvmDerived
import JvmDerived.Pilot.@@N@@Statement
import JvmDerived.Pilot.@@N@@Code
set_option linter.unusedVariables false
set_option linter.unusedSimpArgs false
namespace Jvm.RoadKit
open Sem ClassFile Op Lib Jvm.Stand Jvm.Free Jvm.LawKit
section New
variable {p : Program} {l : Launch} {e : Env} {R : Room} {s : State} {m : MethodId} {args : Array Value} {below : List Frame} {meth : Method} {c : Code} {T : State} {locs : List Loc} {cells slots : Nat}
theorem retI (X : Stand p l e R s m args below meth c T locs cells slots) (hx : p.tables.exec = Jvm.exec) {pc : Nat} {Ls : Array Slot} {z : Int32} {rest : List Value} (hret : meth.sig.returnType = some .int) (hd : decode c.code pc = .ok (.ireturn, 1)) {fs : List Frame}
    (hl : ∀ (f : JFrame) (acts : List Action), f.method = m → f.locked = none → f.entered = [] → (doReturn e (T.setTop f) acts (some (.int z))).1 = T.setFrames fs) : Steps p.tables e below (T.setTop (mkF m pc Ls (.int z :: rest))) (T.setFrames fs) := by
  have hm' : T.vm.method? m = some meth := X.method'
  have hn : narrow .int (.int z) = .int z := rfl
  show Steps p.tables e below (T.setTop { method := m, pc := pc, locals := Ls, stack := _ :: rest, locked := none }) _
  jvm_step X.here [X.here.top, hx, hd, hm', hret, hn]
  first | (intro acts; rw [hl _ acts rfl rfl rfl]) | rw [hl _ _ rfl rfl rfl]
  exact Steps.refl _
end New
end Jvm.RoadKit
namespace Jvm.Pilot.@@N@@
open Jvm Jvm.ClassFile Sem Op Lib Jvm.Free Jvm.Stand Jvm.LawKit Jvm.RoadKit Bundle Jvm.Pilot.@@N@@.Jvm.D
theorem own_refc {v : Value} (h : v.isRef = true) : v = .null ∨ ∃ a, v = .ref a := by cases v <;> simp_all [Value.isRef]
theorem own_narR {t : FieldType} {v : Value} (h : v.isRef = true) : narrow t v = v := by rcases own_refc h with rfl | ⟨_, rfl⟩ <;> cases t <;> rfl
theorem own_le {Z : State} {n0 : Nat} {h : Heap} (O : Old Z n0 h) : n0 ≤ h.size := O.1 ▸ O.2.1
theorem own_fitR {t : FieldType} {v : Value} (ht : refKind t = true) (h : v.isRef = true) : fits t v = true := by rcases own_refc h with rfl | ⟨_, rfl⟩ <;> cases t <;> simp_all [refKind, fits]
theorem own_root {Z : State} {a0 : Array Value} {O K : String} {n : Nat} (w : (Jvm.Cond.noSuperclass O).before a0 Z = true) (wk : (Jvm.Cond.instantiable K n).before a0 Z = true) (hn : O ≠ K) : NS Z O K := by
  obtain ⟨c, k, h1, h2, h3, -, -⟩ := Cond.noSuperclass_spec w
  obtain ⟨t, k2, g1, -⟩ := Cond.instantiable_spec wk
  have ne := ids_ne h1 g1 hn
  refine ⟨c, t, h1, g1, fun fuel => ?_⟩
  cases fuel with
  | zero => rfl
  | succ f => simp [Vm.isSubclassAux, ne, h2, h3]
theorem own_no {Z : State} {a0 : Array Value} {C S K : String} {n : Nat} (w : (Jvm.Cond.superclass C S).before a0 Z = true) (wk : (Jvm.Cond.instantiable K n).before a0 Z = true) (ns : NS Z C K) (hn : C ≠ K) : ∃ c t, Z.vm.findClass C = some c ∧ Z.vm.findClass K = some t ∧ Z.vm.assignable c t = false := by
  obtain ⟨c, t, h0, g0, n3⟩ := ns
  obtain ⟨p, k, kp, h1, h2, h3, h4, h5, -, h7⟩ := Cond.superclass_spec h0 w
  obtain ⟨q, k', g1, g2, g3, g4, -⟩ := Cond.instantiable_spec wk
  cases g0.symm.trans g1
  have ne := ids_ne h0 g0 hn
  have g5 : k'.isInterface = false := by cases hi : k'.isInterface <;> simp_all
  refine ⟨c, t, h0, g0, ?_⟩
  show Z.vm.assignableAux (255 + 1) c t = false
  simp [Vm.assignableAux, ne, h2, g2, h5, g3, g5, Vm.isSubclass, n3]
theorem own_b8 (x : Int32) : x.toInt8.toInt32.toInt8.toInt32 = x.toInt8.toInt32 := by simp
theorem own_ti {k q : Int32} {n : Int} (e : q.toInt = n) (h : n = k.toInt) : k = q := Int32.toInt_inj.mp (h.symm.trans e.symm)
theorem ne_arv {Z : State} {h : Heap} {a b : Addr} {C : String} {a0 : Array Value} {k : Nat} {kc : ClassId} {ty : FieldType} {z : Int32} {vs : List Value} {dv : Value} (F : Exa Z h a C) (wi : (Jvm.Cond.instantiable C k).before a0 Z = true) (G : Arv Z h b kc ty z vs dv) : a ≠ b := by obtain ⟨c, A, -⟩ := G; exact ne_arr F wi A
theorem own_eqi {t : Term} {n : Int32} {args : Array Value} {s : State} (h : (Jvm.Cond.eq t (.int n)).value args s none s [] = some true) : t.eval args s none [] s = some (.int n) := by
  simp only [Jvm.Cond.value] at h
  have hn : (Term.int n).eval args s none [] s = some (.int n) := rfl
  rw [hn] at h
  cases hv : t.eval args s none [] s with
  | none => simp [hv] at h
  | some x => cases x <;> simp [hv] at h ⊢; exact h
section Dyad
open Jvm.FP.Core
def sh (k : Int) : Datum → Datum
  | .fin s c q => .fin s c (q + k)
  | .nan => .nan
  | .inf s => .inf s
/-- the datum is i / 2^k -/
def Dy (k : Nat) (i : Int) (d : Datum) : Prop := Whole i (sh k d)
theorem dy_fin {k : Nat} {i : Int} {d : Datum} (h : Dy k i d) : ∃ s c q, d = .fin s c q := by
  cases d with
  | nan => exact h.elim
  | inf s => exact h.elim
  | fin s c q => exact ⟨s, c, q, rfl⟩
theorem sh_sum (k : Int) (s : Bool) (c : Nat) (q : Int) (t : Bool) (d : Nat) (r : Int) : sh k (exactSum (.fin s c q) (.fin t d r)) = exactSum (.fin s c (q + k)) (.fin t d (r + k)) := by
  have hm : min (q + k) (r + k) = min q r + k := by omega
  have h1 : q + k - (min q r + k) = q - min q r := by omega
  have h2 : r + k - (min q r + k) = r - min q r := by omega
  simp only [exactSum, sh, hm, sumUnits, inUnits, h1, h2]
theorem dy_sum {k : Nat} {i j : Int} {x y : Datum} (hx : Dy k i x) (hy : Dy k j y) : Dy k (i + j) (exactSum x y) := by
  obtain ⟨s, c, q, rfl⟩ := dy_fin hx
  obtain ⟨t, d, r, rfl⟩ := dy_fin hy
  show Whole (i + j) (sh k (exactSum (.fin s c q) (.fin t d r)))
  rw [sh_sum]
  exact whole_sum hx hy
theorem dy_neg {k : Nat} {i : Int} {x : Datum} (hx : Dy k i x) : Dy k (-i) (negate x) := by
  obtain ⟨s, c, q, rfl⟩ := dy_fin hx
  exact whole_negate (x := .fin s c (q + k)) hx
theorem dy_prod {k l : Nat} {i j : Int} {x y : Datum} (hx : Dy k i x) (hy : Dy l j y) : Dy (k + l) (i * j) (exactProduct x y) := by
  obtain ⟨s, c, q, rfl⟩ := dy_fin hx
  obtain ⟨t, d, r, rfl⟩ := dy_fin hy
  have h := whole_product (x := .fin s c (q + k)) (y := .fin t d (r + l)) hx hy
  show Whole (i * j) (.fin (s != t) (c * d) (q + r + ((k + l : Nat) : Int)))
  have e : q + r + ((k + l : Nat) : Int) = (q + k) + (r + l) := by omega
  rw [e]
  exact h
theorem dy_up {k : Nat} {i : Int} {x : Datum} (m : Nat) (hx : Dy k i x) : Dy (k + m) (i * ((2 ^ m : Nat) : Int)) x := by
  obtain ⟨s, c, q, rfl⟩ := dy_fin hx
  have h2 : Whole ((2 ^ m : Nat) : Int) (.fin false 1 (m : Int)) := by
    show signed false (1 * 2 ^ (m : Int).toNat) = ((2 ^ m : Nat) : Int) * ((2 ^ (-(m : Int)).toNat : Nat) : Int)
    have e1 : (m : Int).toNat = m := by omega
    have e2 : (-(m : Int)).toNat = 0 := by omega
    rw [e1, e2]
    simp [signed]
  have h := whole_product (x := .fin s c (q + k)) (y := .fin false 1 (m : Int)) hx h2
  show Whole _ (.fin s c (q + ((k + m : Nat) : Int)))
  have e : q + ((k + m : Nat) : Int) = (q + k) + m := by omega
  rw [e]
  have h' : Whole (i * ((2 ^ m : Nat) : Int)) (.fin (s != false) (c * 1) ((q + k) + m)) := h
  simpa using h'
theorem nat_fit (n : Nat) (h0 : n ≠ 0) (hn : n < 2 ^ 53) (k : Nat) (hk : k ≤ 900) (s : Bool) : n.log2 ≤ 52 ∧ Jvm.FP.Core.fits b64 (.fin s (n * 2 ^ (52 - n.log2)) ((n.log2 : Int) - 52 - k)) := by
  have l1 : 2 ^ n.log2 ≤ n := Nat.log2_self_le h0
  have l2 : n < 2 ^ (n.log2 + 1) := Nat.lt_log2_self
  have l3 : n.log2 < 53 := (Nat.pow_lt_pow_iff_right (by decide : 1 < 2)).mp (Nat.lt_of_le_of_lt l1 hn)
  generalize n.log2 = L at l1 l2 l3
  have hqmin : b64.qmin = -1074 := by decide
  have hqmax : b64.qmax = 971 := by decide
  refine ⟨by omega, ?_, by omega, by omega, .inr ?_⟩
  · show n * 2 ^ (52 - L) < 2 ^ 53
    calc n * 2 ^ (52 - L) < 2 ^ (L + 1) * 2 ^ (52 - L) := Nat.mul_lt_mul_of_pos_right l2 (Nat.two_pow_pos _)
      _ = 2 ^ 53 := by rw [← Nat.pow_add]; congr 1; omega
  · show 2 ^ 52 ≤ n * 2 ^ (52 - L)
    calc 2 ^ 52 = 2 ^ L * 2 ^ (52 - L) := by rw [← Nat.pow_add]; congr 1; omega
      _ ≤ n * 2 ^ (52 - L) := Nat.mul_le_mul_right _ l1
theorem two_shift (c n : Nat) (Q : Int) (M : Nat) (h : c * 2 ^ Q.toNat = n * 2 ^ (-Q).toNat) : c * 2 ^ (Q + M).toNat = n * 2 ^ M * 1 * 2 ^ (-(Q + M)).toNat := by
  have p : 0 < 2 ^ Q.toNat := Nat.two_pow_pos _
  refine Nat.eq_of_mul_eq_mul_right p ?_
  have e : (Q + M).toNat + Q.toNat + (-Q).toNat = (Q + M).toNat + Q.toNat + (-Q).toNat := rfl
  have key : (Q + M).toNat + (-Q).toNat = M + (-(Q + M)).toNat + Q.toNat := by omega
  calc c * 2 ^ (Q + M).toNat * 2 ^ Q.toNat = (c * 2 ^ Q.toNat) * 2 ^ (Q + M).toNat := by rw [Nat.mul_right_comm]
    _ = n * 2 ^ (-Q).toNat * 2 ^ (Q + M).toNat := by rw [h]
    _ = n * 2 ^ ((Q + M).toNat + (-Q).toNat) := by rw [Nat.mul_assoc, ← Nat.pow_add, Nat.add_comm]
    _ = n * 2 ^ (M + (-(Q + M)).toNat + Q.toNat) := by rw [key]
    _ = n * 2 ^ M * 1 * 2 ^ (-(Q + M)).toNat * 2 ^ Q.toNat := by rw [Nat.pow_add, Nat.pow_add]; simp only [Nat.mul_one, Nat.mul_assoc]
theorem dy_round {k : Nat} {i : Int} {d : Datum} (hk : k ≤ 900) (hi : i.natAbs < 2 ^ 53) (h : Dy k i d) : Dy k i (round b64 d) := by
  obtain ⟨s, c, q, rfl⟩ := dy_fin h
  have hW : Whole i (.fin s c (q + k)) := h
  have hn := whole_natAbs hW
  show Dy k i (roundRatio b64 s c 1 q)
  by_cases h0 : i = 0
  · subst h0
    have hc : c = 0 := by
      have p : 0 < 2 ^ (q + k).toNat := Nat.two_pow_pos _
      simp only [Int.natAbs_zero, Nat.zero_mul, Nat.mul_eq_zero] at hn
      omega
    subst hc
    have e : roundRatio b64 s 0 1 q = .fin s 0 b64.qmin := by simp [roundRatio]
    rw [e]
    show signed s (0 * _) = 0 * _
    rw [Nat.zero_mul, Int.zero_mul]
    exact signed_zero s
  · have hne : i.natAbs ≠ 0 := by omega
    obtain ⟨hL, hfit⟩ := nat_fit i.natAbs hne hi k hk s
    generalize hLL : i.natAbs.log2 = L at hL hfit
    have hex := two_shift c i.natAbs (q + k) (52 - L) hn
    have e1 : (q - ((L : Int) - 52 - k)) = (q + k) + ((52 - L : Nat) : Int) := by omega
    have e2 : ((L : Int) - 52 - k - q) = -((q + k) + ((52 - L : Nat) : Int)) := by omega
    rw [roundRatio_exact (B := 1) good_b64 (by decide) hfit (by rw [e1, e2]; exact hex)]
    show signed s (i.natAbs * 2 ^ (52 - L) * 2 ^ ((L : Int) - 52 - k + k).toNat) = i * ((2 ^ (-((L : Int) - 52 - k + k)).toNat : Nat) : Int)
    have e3 : ((L : Int) - 52 - k + k).toNat = 0 := by omega
    have e4 : (-((L : Int) - 52 - k + k)).toNat = 52 - L := by omega
    rw [e3, e4, Nat.pow_zero, Nat.mul_one, signed_mul]
    congr 1
    rw [whole_sign hW h0]
    unfold signed
    by_cases h : i < 0 <;> simp [h] <;> omega
theorem dy_div {k m : Nat} {i : Int} {x y : Datum} (hk : k + m ≤ 900) (hi : i.natAbs < 2 ^ 53) (hx : Dy k i x) (hy : Whole ((2 ^ m : Nat) : Int) y) : Dy (k + m) i (quotient b64 x y) := by
  obtain ⟨s, c, q, rfl⟩ := dy_fin hx
  cases y with
  | nan => exact hy.elim
  | inf t => exact hy.elim
  | fin t d r =>
    have hp : (0 : Int) < ((2 ^ m : Nat) : Int) := by have := Nat.two_pow_pos m; omega
    have hn : d * 2 ^ r.toNat = 2 ^ m * 2 ^ (-r).toNat := by have := whole_natAbs hy; rwa [Int.natAbs_natCast] at this
    have ht : t = false := by
      have := whole_sign hy (by omega)
      rw [this]; exact decide_eq_false (by omega)
    subst ht
    have hd : d ≠ 0 := by
      intro e; subst e
      have p1 := Nat.two_pow_pos m
      have p2 := Nat.two_pow_pos (-r).toNat
      have := Nat.mul_pos p1 p2
      omega
    have hr : d * 2 ^ (r - m).toNat = 2 ^ (m - r).toNat := by
      have p : 0 < 2 ^ (r.toNat + m) := Nat.two_pow_pos _
      refine Nat.eq_of_mul_eq_mul_right p ?_
      have key : (r - m).toNat + m + (-r).toNat + m = (m - r).toNat + r.toNat + m := by omega
      calc d * 2 ^ (r - m).toNat * 2 ^ (r.toNat + m) = (d * 2 ^ r.toNat) * (2 ^ (r - m).toNat * 2 ^ m) := by rw [Nat.pow_add]; ac_rfl
        _ = 2 ^ m * 2 ^ (-r).toNat * (2 ^ (r - m).toNat * 2 ^ m) := by rw [hn]
        _ = 2 ^ ((r - m).toNat + m + (-r).toNat + m) := by simp only [Nat.pow_add]; ac_rfl
        _ = 2 ^ ((m - r).toNat + r.toNat + m) := by rw [key]
        _ = 2 ^ (m - r).toNat * 2 ^ (r.toNat + m) := by simp only [Nat.pow_add]; ac_rfl
    have eq1 : quotient b64 (.fin s c q) (.fin false d r) = roundRatio b64 (s != false) c d (q - r) := by simp [quotient, hd]
    have eq2 : roundRatio b64 (s != false) c d (q - r) = roundRatio b64 (s != false) c 1 (q - m) := by
      refine roundRatio_congr (by omega) (by decide) ?_
      have e1 : (q - r - (q - (m : Int))).toNat = (m - r).toNat := by congr 1; omega
      have e2 : (q - (m : Int) - (q - r)).toNat = (r - m).toNat := by congr 1; omega
      rw [e1, e2, Nat.mul_one, Nat.mul_assoc, hr]
    rw [eq1, eq2]
    have hb : (s != false) = s := by cases s <;> rfl
    rw [hb]
    refine dy_round (d := .fin s c (q - m)) hk hi ?_
    show Whole i (.fin s c (q - m + ((k + m : Nat) : Int)))
    have e : q - m + ((k + m : Nat) : Int) = q + k := by omega
    rw [e]
    exact hx
theorem dy_of_whole {i : Int} {d : Datum} (h : Whole i d) : Dy 0 i d := by
  cases d with
  | nan => exact h.elim
  | inf s => exact h.elim
  | fin s c q =>
    show Whole i (.fin s c (q + ((0 : Nat) : Int)))
    have e : q + ((0 : Nat) : Int) = q := by omega
    rw [e]; exact h
theorem sh_order (k : Int) (x y : Datum) (hx : ∃ s c q, x = .fin s c q) (hy : ∃ s c q, y = .fin s c q) : order (sh k x) (sh k y) = order x y := by
  obtain ⟨s, c, q, rfl⟩ := hx
  obtain ⟨t, d, r, rfl⟩ := hy
  have hm : min (q + k) (r + k) = min q r + k := by omega
  have h1 : q + k - (min q r + k) = q - min q r := by omega
  have h2 : r + k - (min q r + k) = r - min q r := by omega
  simp only [order, sh, hm, inUnits, h1, h2]
theorem dy_cmp {k : Nat} {i : Int} {x y : UInt64} (hx : Dy k i (val64 x)) (hy : Dy k i (val64 y)) : FP.dcmp x y = some .eq := by
  show order (val64 x) (val64 y) = some .eq
  rw [← sh_order k _ _ (dy_fin hx) (dy_fin hy), order_whole hx hy]
  simp
theorem dy_nn {k : Nat} {i : Int} {x : UInt64} (h : Dy k i (val64 x)) : Jvm.Free.Fl.NoNaN64 x := by
  refine Jvm.Free.Fl.noNaN64_no.mpr ?_
  obtain ⟨s, c, q, e⟩ := dy_fin h
  cases hb : dIsNaN x with
  | false => rfl
  | true => rw [(dIsNaN_iff x).mp hb] at e; cases e
theorem dy_mul {k l : Nat} {i j : Int} {x y : UInt64} (hk : k + l ≤ 900) (hi : (i * j).natAbs < 2 ^ 53) (hx : Dy k i (val64 x)) (hy : Dy l j (val64 y)) : Dy (k + l) (i * j) (val64 (FP.dmul x y)) := by
  show Dy (k + l) (i * j) (val64 (Jvm.FP.Core.dmul x y))
  rw [val64_dmul]; exact dy_round hk hi (dy_prod hx hy)
theorem dy_add {k : Nat} {i j : Int} {x y : UInt64} (hk : k ≤ 900) (hi : (i + j).natAbs < 2 ^ 53) (hx : Dy k i (val64 x)) (hy : Dy k j (val64 y)) : Dy k (i + j) (val64 (FP.dadd x y)) := by
  show Dy k (i + j) (val64 (Jvm.FP.Core.dadd x y))
  rw [val64_dadd]; exact dy_round hk hi (dy_sum hx hy)
theorem dy_sub {k : Nat} {i j : Int} {x y : UInt64} (hk : k ≤ 900) (hi : (i - j).natAbs < 2 ^ 53) (hx : Dy k i (val64 x)) (hy : Dy k j (val64 y)) : Dy k (i - j) (val64 (FP.dsub x y)) := by
  show Dy k (i - j) (val64 (Jvm.FP.Core.dsub x y))
  rw [val64_dsub]; exact dy_round hk hi (by have := dy_sum hx (dy_neg hy); rwa [← Int.sub_eq_add_neg] at this)
theorem dy_quo {k m : Nat} {i : Int} {x y : UInt64} (hk : k + m ≤ 900) (hi : i.natAbs < 2 ^ 53) (hx : Dy k i (val64 x)) (hy : Whole ((2 ^ m : Nat) : Int) (val64 y)) : Dy (k + m) i (val64 (FP.ddiv x y)) := by
  show Dy (k + m) i (val64 (Jvm.FP.Core.ddiv x y))
  rw [val64_ddiv]; exact dy_div hk hi hx hy
end Dyad

theorem d1_0 : decode prog_14_method_2_code 0 = .ok (.dload_n 0, 1) := by decide +kernel
theorem d1_1 : decode prog_14_method_2_code 1 = .ok (.dload_n 2, 1) := by decide +kernel
theorem d1_2 : decode prog_14_method_2_code 2 = .ok (.dload 6, 2) := by decide +kernel
theorem d1_4 : decode prog_14_method_2_code 4 = .ok (.dload 4, 2) := by decide +kernel
theorem d1_6 : decode prog_14_method_2_code 6 = .ok (.dmul, 1) := by decide +kernel
theorem d1_7 : decode prog_14_method_2_code 7 = .ok (.dadd, 1) := by decide +kernel
theorem d1_8 : decode prog_14_method_2_code 8 = .ok (.dload 8, 2) := by decide +kernel
theorem d1_10 : decode prog_14_method_2_code 10 = .ok (.ddiv, 1) := by decide +kernel
theorem d1_11 : decode prog_14_method_2_code 11 = .ok (.dconst 1, 1) := by decide +kernel
theorem d1_12 : decode prog_14_method_2_code 12 = .ok (.dsub, 1) := by decide +kernel
theorem d1_13 : decode prog_14_method_2_code 13 = .ok (.dmul, 1) := by decide +kernel
theorem d1_14 : decode prog_14_method_2_code 14 = .ok (.dreturn, 1) := by decide +kernel
theorem pn_com_example_gearline_gearline_factor_FactorFormula : plainName "com/example/gearline/gearline/factor/FactorFormula" = true := by first | (simp [plainName, overriddenIn]; done) | decide +kernel
theorem ef_rm1 (m : MethodId) (x0 : UInt64) (x1 : UInt64) (x2 : UInt64) (x3 : UInt64) (x4 : UInt64) : entryFrame m #[(.double x0), (.double x1), (.double x2), (.double x3), (.double x4)] 10 = mkF m 0 #[.val (.double x0), .second, .val (.double x1), .second, .val (.double x2), .second, .val (.double x3), .second, .val (.double x4), .second] [] := by first | (simp [entryFrame, mkF, argsToLocals, Value.category]; done) | rfl
def Q_rm1 (Z : State) (x0 : UInt64) (x1 : UInt64) (x2 : UInt64) (x3 : UInt64) (x4 : UInt64) (h0 : Heap) (n0 : Nat) (v : Option Value) (h : Heap) (L : List Loc) : Prop := v = some (.double (FP.dmul x0 (FP.dsub (FP.ddiv (FP.dadd x1 (FP.dmul x3 x2)) x4) FP.dconst1))) ∧ Fr n0 L ∧ h = h0
set_option maxRecDepth 65536 in
set_option maxHeartbeats 40000000 in
theorem rm1 (l : Launch) (Z : State) (av0 : Array Value) (hw : ∀ d ∈ tables_1, d.before av0 Z = true) (ws : List Jvm.Cond) (x0 : UInt64) (x1 : UInt64) (x2 : UInt64) (x3 : UInt64) (x4 : UInt64) (h0 : Heap) (n0 : Nat) (Z0 : n0 ≤ h0.size) (hn0 : Jvm.Free.Fl.NoNaN64 (FP.dmul x3 x2)) (hn1 : Jvm.Free.Fl.NoNaN64 (FP.dadd x1 (FP.dmul x3 x2))) (hn2 : Jvm.Free.Fl.NoNaN64 (FP.ddiv (FP.dadd x1 (FP.dmul x3 x2)) x4)) (hn3 : Jvm.Free.Fl.NoNaN64 (FP.dsub (FP.ddiv (FP.dadd x1 (FP.dmul x3 x2)) x4) FP.dconst1)) (hn4 : Jvm.Free.Fl.NoNaN64 (FP.dmul x0 (FP.dsub (FP.ddiv (FP.dadd x1 (FP.dmul x3 x2)) x4) FP.dconst1))) :
    MetFree l (⟨"com/example/gearline/gearline/factor/FactorFormula", "leverageTerm", "(DDDDD)D"⟩ : MethodName) (head1 (Jvm.Cond.code (⟨"com/example/gearline/gearline/factor/FactorFormula", "leverageTerm", "(DDDDD)D"⟩ : MethodName) prog_14_method_2_code 10 (some .double) :: ws) ({ frames := 0, cells := 0, slots := 0, locals := 0 } : Room)) (fun a U => a = #[(.double x0), (.double x1), (.double x2), (.double x3), (.double x4)] ∧ Z.Warmed39 U.vm ∧ U.heap = h0) (fun _ _ _ _ _ => True) (fun _ U o U' => ∃ v L, o = .returned v ∧ Q_rm1 Z x0 x1 x2 x3 x4 h0 n0 v U'.heap L ∧ FrameEnd U o U' L ({ frames := 0, cells := 0, slots := 0, locals := 0 } : Room).cells ({ frames := 0, cells := 0, slots := 0, locals := 0 } : Room).slots) := by
  refine MetFree.of_bodySF (plainFor_of_name pn_com_example_gearline_gearline_factor_FactorFormula) hisR ?_
  intro p e s m args below meth c s₁ Bd hml0 hP hK
  obtain ⟨rfl, hZ, hh⟩ := hP
  have hx := Bd.exec
  have hby := Bd.bytes
  have hml : c.maxLocals = 10 := hml0
  have hown : s.vm.findClass "com/example/gearline/gearline/factor/FactorFormula" = some m.cls := findClass_of_methodNamed Bd.named
  have hnm := (name_of_methodNamed Bd.named Bd.method).1
  have X0 : Stand p l e ({ frames := 0, cells := 0, slots := 0, locals := 0 } : Room) s m #[(.double x0), (.double x1), (.double x2), (.double x3), (.double x4)] below meth c s₁ [] 0 0 := Stand.of_body Bd
  have e0 : s₁.heap = h0 := by rw [← hh, Bd.state]; rfl
  have N0 := Fr.nil n0
  have pre0 : ∀ tz_, Steps p.tables e below (s₁.setTop (mkF m 0 #[.val (.double x0), .second, .val (.double x1), .second, .val (.double x2), .second, .val (.double x3), .second, .val (.double x4), .second] [])) tz_ → Steps p.tables e below (s₁.setTop (entryFrame m #[(.double x0), (.double x1), (.double x2), (.double x3), (.double x4)] 10)) tz_ := fun tz_ kz_ => castTop (ef_rm1 m x0 x1 x2 x3 x4) kz_
  obtain ⟨fs, hrL, hrun, hended, hW, hsame⟩ := X0.leave (v := some (.double (FP.dmul x0 (FP.dsub (FP.ddiv (FP.dadd x1 (FP.dmul x3 x2)) x4) FP.dconst1)))) (fun h => by rw [Bd.returns] at h; cases h)
  refine ⟨_, _, pre0 _ ?_, hrun, hended, _, _, rfl, ?_, ⟨_, rfl⟩, hW, hsame.mono (by decide) (by decide)⟩
  · show Steps p.tables e below (s₁.setTop (mkF m 0 #[.val (.double x0), .second, .val (.double x1), .second, .val (.double x2), .second, .val (.double x3), .second, .val (.double x4), .second] [])) _
    refine XS.dloadN X0.here hx rfl (hb hby d1_0) rfl ?_
    refine XS.dloadN X0.here hx rfl (hb hby d1_1) rfl ?_
    refine XS.dload X0.here hx rfl (hb hby d1_2) rfl ?_
    show Steps p.tables e below (s₁.setTop (mkF m 4 #[.val (.double x0), .second, .val (.double x1), .second, .val (.double x2), .second, .val (.double x3), .second, .val (.double x4), .second] [(.double x3), (.double x1), (.double x0)])) _
    refine XS.dload X0.here hx rfl (hb hby d1_4) rfl ?_
    show Steps p.tables e below (s₁.setTop (mkF m 6 #[.val (.double x0), .second, .val (.double x1), .second, .val (.double x2), .second, .val (.double x3), .second, .val (.double x4), .second] [(.double x2), (.double x3), (.double x1), (.double x0)])) _
    refine XS.dmulS X0.here hx rfl (hb hby d1_6) rfl hn0 rfl ?_
    show Steps p.tables e below (s₁.setTop (mkF m 7 #[.val (.double x0), .second, .val (.double x1), .second, .val (.double x2), .second, .val (.double x3), .second, .val (.double x4), .second] [(.double (FP.dmul x3 x2)), (.double x1), (.double x0)])) _
    refine XS.daddS X0.here hx rfl (hb hby d1_7) rfl hn1 rfl ?_
    refine XS.dload X0.here hx rfl (hb hby d1_8) rfl ?_
    show Steps p.tables e below (s₁.setTop (mkF m 10 #[.val (.double x0), .second, .val (.double x1), .second, .val (.double x2), .second, .val (.double x3), .second, .val (.double x4), .second] [(.double x4), (.double (FP.dadd x1 (FP.dmul x3 x2))), (.double x0)])) _
    refine XS.ddivS X0.here hx rfl (hb hby d1_10) rfl hn2 rfl ?_
    show Steps p.tables e below (s₁.setTop (mkF m 11 #[.val (.double x0), .second, .val (.double x1), .second, .val (.double x2), .second, .val (.double x3), .second, .val (.double x4), .second] [(.double (FP.ddiv (FP.dadd x1 (FP.dmul x3 x2)) x4)), (.double x0)])) _
    refine XS.dconst1 X0.here hx rfl (hb hby d1_11) rfl ?_
    show Steps p.tables e below (s₁.setTop (mkF m 12 #[.val (.double x0), .second, .val (.double x1), .second, .val (.double x2), .second, .val (.double x3), .second, .val (.double x4), .second] [(.double FP.dconst1), (.double (FP.ddiv (FP.dadd x1 (FP.dmul x3 x2)) x4)), (.double x0)])) _
    refine XS.dsubS X0.here hx rfl (hb hby d1_12) rfl hn3 rfl ?_
    show Steps p.tables e below (s₁.setTop (mkF m 13 #[.val (.double x0), .second, .val (.double x1), .second, .val (.double x2), .second, .val (.double x3), .second, .val (.double x4), .second] [(.double (FP.dsub (FP.ddiv (FP.dadd x1 (FP.dmul x3 x2)) x4) FP.dconst1)), (.double x0)])) _
    refine XS.dmulS X0.here hx rfl (hb hby d1_13) rfl hn4 rfl ?_
    show Steps p.tables e below (s₁.setTop (mkF m 14 #[.val (.double x0), .second, .val (.double x1), .second, .val (.double x2), .second, .val (.double x3), .second, .val (.double x4), .second] [(.double (FP.dmul x0 (FP.dsub (FP.ddiv (FP.dadd x1 (FP.dmul x3 x2)) x4) FP.dconst1)))])) _
    exact retOut X0 hx Bd.returns rfl (Or.inr (Or.inr (Or.inl ⟨rfl, rfl, _, rfl⟩))) (hb hby d1_14) hrL
  · show Q_rm1 _ _ _ _ _ _ _ _ _  s₁.heap _
    rw [e0]
    exact ⟨rfl, N0, rfl⟩
theorem pd_0 : parseMethodDescriptor "(DDDDD)D" = some ⟨[.double, .double, .double, .double, .double], some .double⟩ := by decide +kernel
theorem pn_com_example_gearline_gearline_factor_FactorFormulaLeverageTermPinLaw : plainName "com/example/gearline/gearline/factor/FactorFormulaLeverageTermPinLaw" = true := by first | (simp [plainName, overriddenIn]; done) | decide +kernel
theorem ef_rm0 (m : MethodId) (i0 : Int32) (i1 : Int32) (i2 : Int32) (i3 : Int32) (i4 : Int32) : entryFrame m #[(.int i0), (.int i1), (.int i2), (.int i3), (.int i4)] maxLocals = mkF m 0 #[.val (.int i0), .val (.int i1), .val (.int i2), .val (.int i3), .val (.int i4), .unset, .unset, .unset, .unset, .unset, .unset, .unset, .unset, .unset, .unset, .unset, .unset] [] := by first | (simp [entryFrame, mkF, argsToLocals, Value.category, maxLocals]; done) | rfl
def Q_rm0 (Z : State) (i0 : Int32) (i1 : Int32) (i2 : Int32) (i3 : Int32) (i4 : Int32) (h0 : Heap) (n0 : Nat) (v : Option Value) (h : Heap) (L : List Loc) : Prop := v = some (.int 1) ∧ Fr n0 L ∧ h = h0
set_option maxRecDepth 65536 in
set_option maxHeartbeats 40000000 in
theorem rm0 (l : Launch) (Z : State) (av0 : Array Value) (hw : ∀ d ∈ tables_1, d.before av0 Z = true) (ws : List Jvm.Cond) (i0 : Int32) (i1 : Int32) (i2 : Int32) (i3 : Int32) (i4 : Int32) (h0 : Heap) (n0 : Nat) (Z0 : n0 ≤ h0.size) (ha : Jvm.Free.Fl.NoNaN64 (FP.ddiv (FP.i2d ((i3 &&& (2147483647 : Int32)) % (5 : Int32))) (4616189618054758400 : UInt64))) (hn0 : Jvm.Free.Fl.NoNaN64 (FP.dmul (FP.ddiv (FP.i2d ((i3 &&& (2147483647 : Int32)) % (5 : Int32))) (4616189618054758400 : UInt64)) (FP.i2d (i2 &&& (1023 : Int32))))) (hn1 : Jvm.Free.Fl.NoNaN64 (FP.dadd (FP.i2d (i1 &&& (1048575 : Int32))) (FP.dmul (FP.ddiv (FP.i2d ((i3 &&& (2147483647 : Int32)) % (5 : Int32))) (4616189618054758400 : UInt64)) (FP.i2d (i2 &&& (1023 : Int32)))))) (hn2 : Jvm.Free.Fl.NoNaN64 (FP.ddiv (FP.dadd (FP.i2d (i1 &&& (1048575 : Int32))) (FP.dmul (FP.ddiv (FP.i2d ((i3 &&& (2147483647 : Int32)) % (5 : Int32))) (4616189618054758400 : UInt64)) (FP.i2d (i2 &&& (1023 : Int32))))) (FP.i2d ((1 : Int32) <<< ((i4 &&& (7 : Int32)) &&& 31))))) (hn3 : Jvm.Free.Fl.NoNaN64 (FP.dsub (FP.ddiv (FP.dadd (FP.i2d (i1 &&& (1048575 : Int32))) (FP.dmul (FP.ddiv (FP.i2d ((i3 &&& (2147483647 : Int32)) % (5 : Int32))) (4616189618054758400 : UInt64)) (FP.i2d (i2 &&& (1023 : Int32))))) (FP.i2d ((1 : Int32) <<< ((i4 &&& (7 : Int32)) &&& 31)))) FP.dconst1)) (hn4 : Jvm.Free.Fl.NoNaN64 (FP.dmul (FP.i2d (i0 % (17 : Int32))) (FP.dsub (FP.ddiv (FP.dadd (FP.i2d (i1 &&& (1048575 : Int32))) (FP.dmul (FP.ddiv (FP.i2d ((i3 &&& (2147483647 : Int32)) % (5 : Int32))) (4616189618054758400 : UInt64)) (FP.i2d (i2 &&& (1023 : Int32))))) (FP.i2d ((1 : Int32) <<< ((i4 &&& (7 : Int32)) &&& 31)))) FP.dconst1))) (hq : Jvm.Free.Fl.NoNaN64 (FP.dmul (4616189618054758400 : UInt64) (FP.i2d ((1 : Int32) <<< ((i4 &&& (7 : Int32)) &&& 31))))) (hl : Jvm.Free.Fl.NoNaN64 (FP.dmul (FP.dmul (FP.i2d (i0 % (17 : Int32))) (FP.dsub (FP.ddiv (FP.dadd (FP.i2d (i1 &&& (1048575 : Int32))) (FP.dmul (FP.ddiv (FP.i2d ((i3 &&& (2147483647 : Int32)) % (5 : Int32))) (4616189618054758400 : UInt64)) (FP.i2d (i2 &&& (1023 : Int32))))) (FP.i2d ((1 : Int32) <<< ((i4 &&& (7 : Int32)) &&& 31)))) FP.dconst1)) (FP.dmul (4616189618054758400 : UInt64) (FP.i2d ((1 : Int32) <<< ((i4 &&& (7 : Int32)) &&& 31)))))) (hcmp : cmpValue (FP.dcmp (FP.dmul (FP.dmul (FP.i2d (i0 % (17 : Int32))) (FP.dsub (FP.ddiv (FP.dadd (FP.i2d (i1 &&& (1048575 : Int32))) (FP.dmul (FP.ddiv (FP.i2d ((i3 &&& (2147483647 : Int32)) % (5 : Int32))) (4616189618054758400 : UInt64)) (FP.i2d (i2 &&& (1023 : Int32))))) (FP.i2d ((1 : Int32) <<< ((i4 &&& (7 : Int32)) &&& 31)))) FP.dconst1)) (FP.dmul (4616189618054758400 : UInt64) (FP.i2d ((1 : Int32) <<< ((i4 &&& (7 : Int32)) &&& 31))))) (FP.l2d (((i0 % (17 : Int32)).toInt64) * ((((4 : Int64) * ((i1 &&& (1048575 : Int32)).toInt64)) + ((((i3 &&& (2147483647 : Int32)) % (5 : Int32)).toInt64) * ((i2 &&& (1023 : Int32)).toInt64))) - ((4 : Int64) * (((1 : Int32) <<< ((i4 &&& (7 : Int32)) &&& 31)).toInt64)))))) .l = (0 : Int32)) :
    MetFree l x (head1 (Jvm.Cond.code x code maxLocals ret :: ws) room_1) (fun a U => a = #[(.int i0), (.int i1), (.int i2), (.int i3), (.int i4)] ∧ Z.Warmed39 U.vm ∧ U.heap = h0) (fun _ _ _ _ _ => True) (fun _ U o U' => ∃ v L, o = .returned v ∧ Q_rm0 Z i0 i1 i2 i3 i4 h0 n0 v U'.heap L ∧ FrameEnd U o U' L room_1.cells room_1.slots) := by
  refine MetFree.of_bodySF (plainFor_of_name pn_com_example_gearline_gearline_factor_FactorFormulaLeverageTermPinLaw) hisR ?_
  intro p e s m args below meth c s₁ Bd hml0 hP hK
  obtain ⟨rfl, hZ, hh⟩ := hP
  have hx := Bd.exec
  have hby := Bd.bytes
  have hml : c.maxLocals = 17 := hml0
  have hown : s.vm.findClass "com/example/gearline/gearline/factor/FactorFormulaLeverageTermPinLaw" = some m.cls := findClass_of_methodNamed Bd.named
  have hnm := (name_of_methodNamed Bd.named Bd.method).1
  have X0 : Stand p l e room_1 s m #[(.int i0), (.int i1), (.int i2), (.int i3), (.int i4)] below meth c s₁ [] 0 0 := Stand.of_body Bd
  have e0 : s₁.heap = h0 := by rw [← hh, Bd.state]; rfl
  have N0 := Fr.nil n0
  have pre0 : ∀ tz_, Steps p.tables e below (s₁.setTop (mkF m 0 #[.val (.int i0), .val (.int i1), .val (.int i2), .val (.int i3), .val (.int i4), .unset, .unset, .unset, .unset, .unset, .unset, .unset, .unset, .unset, .unset, .unset, .unset] [])) tz_ → Steps p.tables e below (s₁.setTop (entryFrame m #[(.int i0), (.int i1), (.int i2), (.int i3), (.int i4)] maxLocals)) tz_ := fun tz_ kz_ => castTop (ef_rm0 m i0 i1 i2 i3 i4) kz_
  -- pc 63: FactorFormula.leverageTerm
  obtain ⟨_, _, ⟨T31, L31, k31, n31⟩, -, X31, ⟨Lc31, hQ31, l31, y31, z31⟩, st31⟩ := Jvm.LawKit.callS X0 hx (y := (⟨"com/example/gearline/gearline/factor/FactorFormula", "leverageTerm", "(DDDDD)D"⟩ : MethodName)) hown (mvT hZ (hw _ (List.mem_of_getElem? (i := 3) rfl))) (mvT hZ (hw _ (List.mem_of_getElem? (i := 4) rfl))) (mvT hZ (hw _ (List.mem_of_getElem? (i := 5) rfl))) (mvT hZ (hw _ (List.mem_of_getElem? (i := 6) rfl))) (by decide) (backOf (W := 0) (rm1 l Z av0 hw [] (FP.i2d (i0 % (17 : Int32))) (FP.i2d (i1 &&& (1048575 : Int32))) (FP.i2d (i2 &&& (1023 : Int32))) (FP.ddiv (FP.i2d ((i3 &&& (2147483647 : Int32)) % (5 : Int32))) (4616189618054758400 : UInt64)) (FP.i2d ((1 : Int32) <<< ((i4 &&& (7 : Int32)) &&& 31))) h0 n0 Z0 (hn0 : Jvm.Free.Fl.NoNaN64 (FP.dmul (FP.ddiv (FP.i2d ((i3 &&& (2147483647 : Int32)) % (5 : Int32))) (4616189618054758400 : UInt64)) (FP.i2d (i2 &&& (1023 : Int32))))) (hn1 : Jvm.Free.Fl.NoNaN64 (FP.dadd (FP.i2d (i1 &&& (1048575 : Int32))) (FP.dmul (FP.ddiv (FP.i2d ((i3 &&& (2147483647 : Int32)) % (5 : Int32))) (4616189618054758400 : UInt64)) (FP.i2d (i2 &&& (1023 : Int32)))))) (hn2 : Jvm.Free.Fl.NoNaN64 (FP.ddiv (FP.dadd (FP.i2d (i1 &&& (1048575 : Int32))) (FP.dmul (FP.ddiv (FP.i2d ((i3 &&& (2147483647 : Int32)) % (5 : Int32))) (4616189618054758400 : UInt64)) (FP.i2d (i2 &&& (1023 : Int32))))) (FP.i2d ((1 : Int32) <<< ((i4 &&& (7 : Int32)) &&& 31))))) (hn3 : Jvm.Free.Fl.NoNaN64 (FP.dsub (FP.ddiv (FP.dadd (FP.i2d (i1 &&& (1048575 : Int32))) (FP.dmul (FP.ddiv (FP.i2d ((i3 &&& (2147483647 : Int32)) % (5 : Int32))) (4616189618054758400 : UInt64)) (FP.i2d (i2 &&& (1023 : Int32))))) (FP.i2d ((1 : Int32) <<< ((i4 &&& (7 : Int32)) &&& 31)))) FP.dconst1)) (hn4 : Jvm.Free.Fl.NoNaN64 (FP.dmul (FP.i2d (i0 % (17 : Int32))) (FP.dsub (FP.ddiv (FP.dadd (FP.i2d (i1 &&& (1048575 : Int32))) (FP.dmul (FP.ddiv (FP.i2d ((i3 &&& (2147483647 : Int32)) % (5 : Int32))) (4616189618054758400 : UInt64)) (FP.i2d (i2 &&& (1023 : Int32))))) (FP.i2d ((1 : Int32) <<< ((i4 &&& (7 : Int32)) &&& 31)))) FP.dconst1)))) hZ (hw _ (List.mem_of_getElem? (i := 6) rfl)) (hw _ (List.mem_of_getElem? (i := 5) rfl)) (by decide) (by decide)) (g := (mkF m 63 #[.val (.int i0), .val (.int i1), .val (.int i2), .val (.int i3), .val (.int i4), .val (.int (i0 % (17 : Int32))), .val (.int (i1 &&& (1048575 : Int32))), .val (.int (i2 &&& (1023 : Int32))), .val (.int ((i3 &&& (2147483647 : Int32)) % (5 : Int32))), .val (.int (i4 &&& (7 : Int32))), .val (.int ((1 : Int32) <<< ((i4 &&& (7 : Int32)) &&& 31))), .val (.double (FP.ddiv (FP.i2d ((i3 &&& (2147483647 : Int32)) % (5 : Int32))) (4616189618054758400 : UInt64))), .second, .unset, .unset, .unset, .unset] [(.double (FP.i2d ((1 : Int32) <<< ((i4 &&& (7 : Int32)) &&& 31)))), (.double (FP.ddiv (FP.i2d ((i3 &&& (2147483647 : Int32)) % (5 : Int32))) (4616189618054758400 : UInt64))), (.double (FP.i2d (i2 &&& (1023 : Int32)))), (.double (FP.i2d (i1 &&& (1048575 : Int32)))), (.double (FP.i2d (i0 % (17 : Int32))))])) rfl (by rw [hml]; rfl) (argsL := [(.double (FP.i2d (i0 % (17 : Int32)))), (.double (FP.i2d (i1 &&& (1048575 : Int32)))), (.double (FP.i2d (i2 &&& (1023 : Int32)))), (.double (FP.ddiv (FP.i2d ((i3 &&& (2147483647 : Int32)) % (5 : Int32))) (4616189618054758400 : UInt64))), (.double (FP.i2d ((1 : Int32) <<< ((i4 &&& (7 : Int32)) &&& 31))))]) (rest := []) (lenOf pd_0 rfl) rfl (by show 2 * 0 + _ ≤ _; exact Nat.le_of_eq rfl) (hb hby at_63) (fun vmx hWx => ⟨rfl, e0, (by decide : 0 + 0 ≤ _), (by decide : 0 + 0 ≤ _)⟩)
  dsimp only [Pt.U, Pt.locs, Pt.cells, Pt.slots] at X31 l31 y31 z31 st31 hQ31
  subst l31 y31 z31
  obtain ⟨rv31, Nq31, Kq31⟩ := hQ31
  subst rv31
  have N31 := Fr.app N0 Nq31
  obtain ⟨fs, hrL, hrun, hended, hW, hsame⟩ := X31.leave (v := some (.int 1)) (fun h => by rw [Bd.returns] at h; cases h)
  refine ⟨_, _, pre0 _ ?_, hrun, hended, _, _, rfl, ?_, ⟨_, rfl⟩, hW, hsame.mono (by decide) (by decide)⟩
  · show Steps p.tables e below (s₁.setTop (mkF m 0 #[.val (.int i0), .val (.int i1), .val (.int i2), .val (.int i3), .val (.int i4), .unset, .unset, .unset, .unset, .unset, .unset, .unset, .unset, .unset, .unset, .unset, .unset] [])) _
    refine XS.iloadN X0.here hx rfl (hb hby at_0) rfl ?_
    refine XS.bipush X0.here hx rfl (hb hby at_1) ?_
    show Steps p.tables e below (s₁.setTop (mkF m 3 #[.val (.int i0), .val (.int i1), .val (.int i2), .val (.int i3), .val (.int i4), .unset, .unset, .unset, .unset, .unset, .unset, .unset, .unset, .unset, .unset, .unset, .unset] [(.int 17), (.int i0)])) _
    refine Jvm.RoadKit.iremM X0 hx rfl (hb hby at_3) rfl (by decide) ?_
    show Steps p.tables e below (s₁.setTop (mkF m 4 #[.val (.int i0), .val (.int i1), .val (.int i2), .val (.int i3), .val (.int i4), .unset, .unset, .unset, .unset, .unset, .unset, .unset, .unset, .unset, .unset, .unset, .unset] [(.int (i0 % (17 : Int32)))])) _
    refine XS.istore X0.here hx rfl (hb hby at_4) rfl (l' := #[.val (.int i0), .val (.int i1), .val (.int i2), .val (.int i3), .val (.int i4), .val (.int (i0 % (17 : Int32))), .unset, .unset, .unset, .unset, .unset, .unset, .unset, .unset, .unset, .unset, .unset]) rfl ?_
    refine XS.iloadN X0.here hx rfl (hb hby at_6) rfl ?_
    show Steps p.tables e below (s₁.setTop (mkF m 7 #[.val (.int i0), .val (.int i1), .val (.int i2), .val (.int i3), .val (.int i4), .val (.int (i0 % (17 : Int32))), .unset, .unset, .unset, .unset, .unset, .unset, .unset, .unset, .unset, .unset, .unset] [(.int i1)])) _
    refine X0.ldcInt hx hown (mvT hZ (hw _ (List.mem_of_getElem? (i := 0) rfl))) (g := (mkF m 7 #[.val (.int i0), .val (.int i1), .val (.int i2), .val (.int i3), .val (.int i4), .val (.int (i0 % (17 : Int32))), .unset, .unset, .unset, .unset, .unset, .unset, .unset, .unset, .unset, .unset, .unset] [(.int i1)])) rfl (hb hby at_7) _ ?_
    show Steps p.tables e below (s₁.setTop (mkF m 9 #[.val (.int i0), .val (.int i1), .val (.int i2), .val (.int i3), .val (.int i4), .val (.int (i0 % (17 : Int32))), .unset, .unset, .unset, .unset, .unset, .unset, .unset, .unset, .unset, .unset, .unset] [(.int 1048575), (.int i1)])) _
    refine XS.iand X0.here hx rfl (hb hby at_9) rfl ?_
    show Steps p.tables e below (s₁.setTop (mkF m 10 #[.val (.int i0), .val (.int i1), .val (.int i2), .val (.int i3), .val (.int i4), .val (.int (i0 % (17 : Int32))), .unset, .unset, .unset, .unset, .unset, .unset, .unset, .unset, .unset, .unset, .unset] [(.int (i1 &&& (1048575 : Int32)))])) _
    refine XS.istore X0.here hx rfl (hb hby at_10) rfl (l' := #[.val (.int i0), .val (.int i1), .val (.int i2), .val (.int i3), .val (.int i4), .val (.int (i0 % (17 : Int32))), .val (.int (i1 &&& (1048575 : Int32))), .unset, .unset, .unset, .unset, .unset, .unset, .unset, .unset, .unset, .unset]) rfl ?_
    refine XS.iloadN X0.here hx rfl (hb hby at_12) rfl ?_
    refine XS.sipush X0.here hx rfl (hb hby at_13) ?_
    show Steps p.tables e below (s₁.setTop (mkF m 16 #[.val (.int i0), .val (.int i1), .val (.int i2), .val (.int i3), .val (.int i4), .val (.int (i0 % (17 : Int32))), .val (.int (i1 &&& (1048575 : Int32))), .unset, .unset, .unset, .unset, .unset, .unset, .unset, .unset, .unset, .unset] [(.int 1023), (.int i2)])) _
    refine XS.iand X0.here hx rfl (hb hby at_16) rfl ?_
    show Steps p.tables e below (s₁.setTop (mkF m 17 #[.val (.int i0), .val (.int i1), .val (.int i2), .val (.int i3), .val (.int i4), .val (.int (i0 % (17 : Int32))), .val (.int (i1 &&& (1048575 : Int32))), .unset, .unset, .unset, .unset, .unset, .unset, .unset, .unset, .unset, .unset] [(.int (i2 &&& (1023 : Int32)))])) _
    refine XS.istore X0.here hx rfl (hb hby at_17) rfl (l' := #[.val (.int i0), .val (.int i1), .val (.int i2), .val (.int i3), .val (.int i4), .val (.int (i0 % (17 : Int32))), .val (.int (i1 &&& (1048575 : Int32))), .val (.int (i2 &&& (1023 : Int32))), .unset, .unset, .unset, .unset, .unset, .unset, .unset, .unset, .unset]) rfl ?_
    refine XS.iloadN X0.here hx rfl (hb hby at_19) rfl ?_
    show Steps p.tables e below (s₁.setTop (mkF m 20 #[.val (.int i0), .val (.int i1), .val (.int i2), .val (.int i3), .val (.int i4), .val (.int (i0 % (17 : Int32))), .val (.int (i1 &&& (1048575 : Int32))), .val (.int (i2 &&& (1023 : Int32))), .unset, .unset, .unset, .unset, .unset, .unset, .unset, .unset, .unset] [(.int i3)])) _
    refine X0.ldcInt hx hown (mvT hZ (hw _ (List.mem_of_getElem? (i := 1) rfl))) (g := (mkF m 20 #[.val (.int i0), .val (.int i1), .val (.int i2), .val (.int i3), .val (.int i4), .val (.int (i0 % (17 : Int32))), .val (.int (i1 &&& (1048575 : Int32))), .val (.int (i2 &&& (1023 : Int32))), .unset, .unset, .unset, .unset, .unset, .unset, .unset, .unset, .unset] [(.int i3)])) rfl (hb hby at_20) _ ?_
    show Steps p.tables e below (s₁.setTop (mkF m 22 #[.val (.int i0), .val (.int i1), .val (.int i2), .val (.int i3), .val (.int i4), .val (.int (i0 % (17 : Int32))), .val (.int (i1 &&& (1048575 : Int32))), .val (.int (i2 &&& (1023 : Int32))), .unset, .unset, .unset, .unset, .unset, .unset, .unset, .unset, .unset] [(.int 2147483647), (.int i3)])) _
    refine XS.iand X0.here hx rfl (hb hby at_22) rfl ?_
    show Steps p.tables e below (s₁.setTop (mkF m 23 #[.val (.int i0), .val (.int i1), .val (.int i2), .val (.int i3), .val (.int i4), .val (.int (i0 % (17 : Int32))), .val (.int (i1 &&& (1048575 : Int32))), .val (.int (i2 &&& (1023 : Int32))), .unset, .unset, .unset, .unset, .unset, .unset, .unset, .unset, .unset] [(.int (i3 &&& (2147483647 : Int32)))])) _
    refine XS.iconst X0.here hx rfl (hb hby at_23) ?_
    show Steps p.tables e below (s₁.setTop (mkF m 24 #[.val (.int i0), .val (.int i1), .val (.int i2), .val (.int i3), .val (.int i4), .val (.int (i0 % (17 : Int32))), .val (.int (i1 &&& (1048575 : Int32))), .val (.int (i2 &&& (1023 : Int32))), .unset, .unset, .unset, .unset, .unset, .unset, .unset, .unset, .unset] [(.int 5), (.int (i3 &&& (2147483647 : Int32)))])) _
    refine Jvm.RoadKit.iremM X0 hx rfl (hb hby at_24) rfl (by decide) ?_
    refine XS.istore X0.here hx rfl (hb hby at_25) rfl (l' := #[.val (.int i0), .val (.int i1), .val (.int i2), .val (.int i3), .val (.int i4), .val (.int (i0 % (17 : Int32))), .val (.int (i1 &&& (1048575 : Int32))), .val (.int (i2 &&& (1023 : Int32))), .val (.int ((i3 &&& (2147483647 : Int32)) % (5 : Int32))), .unset, .unset, .unset, .unset, .unset, .unset, .unset, .unset]) rfl ?_
    refine XS.iload X0.here hx rfl (hb hby at_27) rfl ?_
    show Steps p.tables e below (s₁.setTop (mkF m 29 #[.val (.int i0), .val (.int i1), .val (.int i2), .val (.int i3), .val (.int i4), .val (.int (i0 % (17 : Int32))), .val (.int (i1 &&& (1048575 : Int32))), .val (.int (i2 &&& (1023 : Int32))), .val (.int ((i3 &&& (2147483647 : Int32)) % (5 : Int32))), .unset, .unset, .unset, .unset, .unset, .unset, .unset, .unset] [(.int i4)])) _
    refine XS.bipush X0.here hx rfl (hb hby at_29) ?_
    show Steps p.tables e below (s₁.setTop (mkF m 31 #[.val (.int i0), .val (.int i1), .val (.int i2), .val (.int i3), .val (.int i4), .val (.int (i0 % (17 : Int32))), .val (.int (i1 &&& (1048575 : Int32))), .val (.int (i2 &&& (1023 : Int32))), .val (.int ((i3 &&& (2147483647 : Int32)) % (5 : Int32))), .unset, .unset, .unset, .unset, .unset, .unset, .unset, .unset] [(.int 7), (.int i4)])) _
    refine XS.iand X0.here hx rfl (hb hby at_31) rfl ?_
    refine XS.istore X0.here hx rfl (hb hby at_32) rfl (l' := #[.val (.int i0), .val (.int i1), .val (.int i2), .val (.int i3), .val (.int i4), .val (.int (i0 % (17 : Int32))), .val (.int (i1 &&& (1048575 : Int32))), .val (.int (i2 &&& (1023 : Int32))), .val (.int ((i3 &&& (2147483647 : Int32)) % (5 : Int32))), .val (.int (i4 &&& (7 : Int32))), .unset, .unset, .unset, .unset, .unset, .unset, .unset]) rfl ?_
    refine XS.iconst X0.here hx rfl (hb hby at_34) ?_
    show Steps p.tables e below (s₁.setTop (mkF m 35 #[.val (.int i0), .val (.int i1), .val (.int i2), .val (.int i3), .val (.int i4), .val (.int (i0 % (17 : Int32))), .val (.int (i1 &&& (1048575 : Int32))), .val (.int (i2 &&& (1023 : Int32))), .val (.int ((i3 &&& (2147483647 : Int32)) % (5 : Int32))), .val (.int (i4 &&& (7 : Int32))), .unset, .unset, .unset, .unset, .unset, .unset, .unset] [(.int 1)])) _
    refine XS.iload X0.here hx rfl (hb hby at_35) rfl ?_
    show Steps p.tables e below (s₁.setTop (mkF m 37 #[.val (.int i0), .val (.int i1), .val (.int i2), .val (.int i3), .val (.int i4), .val (.int (i0 % (17 : Int32))), .val (.int (i1 &&& (1048575 : Int32))), .val (.int (i2 &&& (1023 : Int32))), .val (.int ((i3 &&& (2147483647 : Int32)) % (5 : Int32))), .val (.int (i4 &&& (7 : Int32))), .unset, .unset, .unset, .unset, .unset, .unset, .unset] [(.int (i4 &&& (7 : Int32))), (.int 1)])) _
    refine XS.ishl X0.here hx rfl (hb hby at_37) rfl ?_
    refine XS.istore X0.here hx rfl (hb hby at_38) rfl (l' := #[.val (.int i0), .val (.int i1), .val (.int i2), .val (.int i3), .val (.int i4), .val (.int (i0 % (17 : Int32))), .val (.int (i1 &&& (1048575 : Int32))), .val (.int (i2 &&& (1023 : Int32))), .val (.int ((i3 &&& (2147483647 : Int32)) % (5 : Int32))), .val (.int (i4 &&& (7 : Int32))), .val (.int ((1 : Int32) <<< ((i4 &&& (7 : Int32)) &&& 31))), .unset, .unset, .unset, .unset, .unset, .unset]) rfl ?_
    refine XS.iload X0.here hx rfl (hb hby at_40) rfl ?_
    show Steps p.tables e below (s₁.setTop (mkF m 42 #[.val (.int i0), .val (.int i1), .val (.int i2), .val (.int i3), .val (.int i4), .val (.int (i0 % (17 : Int32))), .val (.int (i1 &&& (1048575 : Int32))), .val (.int (i2 &&& (1023 : Int32))), .val (.int ((i3 &&& (2147483647 : Int32)) % (5 : Int32))), .val (.int (i4 &&& (7 : Int32))), .val (.int ((1 : Int32) <<< ((i4 &&& (7 : Int32)) &&& 31))), .unset, .unset, .unset, .unset, .unset, .unset] [(.int ((i3 &&& (2147483647 : Int32)) % (5 : Int32)))])) _
    refine XS.i2dS X0.here hx rfl (hb hby at_42) rfl rfl ?_
    show Steps p.tables e below (s₁.setTop (mkF m 43 #[.val (.int i0), .val (.int i1), .val (.int i2), .val (.int i3), .val (.int i4), .val (.int (i0 % (17 : Int32))), .val (.int (i1 &&& (1048575 : Int32))), .val (.int (i2 &&& (1023 : Int32))), .val (.int ((i3 &&& (2147483647 : Int32)) % (5 : Int32))), .val (.int (i4 &&& (7 : Int32))), .val (.int ((1 : Int32) <<< ((i4 &&& (7 : Int32)) &&& 31))), .unset, .unset, .unset, .unset, .unset, .unset] [(.double (FP.i2d ((i3 &&& (2147483647 : Int32)) % (5 : Int32))))])) _
    refine X0.ldc2DoubleC hx hown (mvT hZ (hw _ (List.mem_of_getElem? (i := 2) rfl))) (g := (mkF m 43 #[.val (.int i0), .val (.int i1), .val (.int i2), .val (.int i3), .val (.int i4), .val (.int (i0 % (17 : Int32))), .val (.int (i1 &&& (1048575 : Int32))), .val (.int (i2 &&& (1023 : Int32))), .val (.int ((i3 &&& (2147483647 : Int32)) % (5 : Int32))), .val (.int (i4 &&& (7 : Int32))), .val (.int ((1 : Int32) <<< ((i4 &&& (7 : Int32)) &&& 31))), .unset, .unset, .unset, .unset, .unset, .unset] [(.double (FP.i2d ((i3 &&& (2147483647 : Int32)) % (5 : Int32))))])) rfl (hb hby at_43) _ ?_
    show Steps p.tables e below (s₁.setTop (mkF m 46 #[.val (.int i0), .val (.int i1), .val (.int i2), .val (.int i3), .val (.int i4), .val (.int (i0 % (17 : Int32))), .val (.int (i1 &&& (1048575 : Int32))), .val (.int (i2 &&& (1023 : Int32))), .val (.int ((i3 &&& (2147483647 : Int32)) % (5 : Int32))), .val (.int (i4 &&& (7 : Int32))), .val (.int ((1 : Int32) <<< ((i4 &&& (7 : Int32)) &&& 31))), .unset, .unset, .unset, .unset, .unset, .unset] [(.double (4616189618054758400 : UInt64)), (.double (FP.i2d ((i3 &&& (2147483647 : Int32)) % (5 : Int32))))])) _
    refine XS.ddivS X0.here hx rfl (hb hby at_46) rfl ha rfl ?_
    show Steps p.tables e below (s₁.setTop (mkF m 47 #[.val (.int i0), .val (.int i1), .val (.int i2), .val (.int i3), .val (.int i4), .val (.int (i0 % (17 : Int32))), .val (.int (i1 &&& (1048575 : Int32))), .val (.int (i2 &&& (1023 : Int32))), .val (.int ((i3 &&& (2147483647 : Int32)) % (5 : Int32))), .val (.int (i4 &&& (7 : Int32))), .val (.int ((1 : Int32) <<< ((i4 &&& (7 : Int32)) &&& 31))), .unset, .unset, .unset, .unset, .unset, .unset] [(.double (FP.ddiv (FP.i2d ((i3 &&& (2147483647 : Int32)) % (5 : Int32))) (4616189618054758400 : UInt64)))])) _
    refine XS.dstore X0.here hx rfl (hb hby at_47) rfl (l' := #[.val (.int i0), .val (.int i1), .val (.int i2), .val (.int i3), .val (.int i4), .val (.int (i0 % (17 : Int32))), .val (.int (i1 &&& (1048575 : Int32))), .val (.int (i2 &&& (1023 : Int32))), .val (.int ((i3 &&& (2147483647 : Int32)) % (5 : Int32))), .val (.int (i4 &&& (7 : Int32))), .val (.int ((1 : Int32) <<< ((i4 &&& (7 : Int32)) &&& 31))), .val (.double (FP.ddiv (FP.i2d ((i3 &&& (2147483647 : Int32)) % (5 : Int32))) (4616189618054758400 : UInt64))), .second, .unset, .unset, .unset, .unset]) rfl ?_
    show Steps p.tables e below (s₁.setTop (mkF m 49 #[.val (.int i0), .val (.int i1), .val (.int i2), .val (.int i3), .val (.int i4), .val (.int (i0 % (17 : Int32))), .val (.int (i1 &&& (1048575 : Int32))), .val (.int (i2 &&& (1023 : Int32))), .val (.int ((i3 &&& (2147483647 : Int32)) % (5 : Int32))), .val (.int (i4 &&& (7 : Int32))), .val (.int ((1 : Int32) <<< ((i4 &&& (7 : Int32)) &&& 31))), .val (.double (FP.ddiv (FP.i2d ((i3 &&& (2147483647 : Int32)) % (5 : Int32))) (4616189618054758400 : UInt64))), .second, .unset, .unset, .unset, .unset] [])) _
    refine XS.iload X0.here hx rfl (hb hby at_49) rfl ?_
    show Steps p.tables e below (s₁.setTop (mkF m 51 #[.val (.int i0), .val (.int i1), .val (.int i2), .val (.int i3), .val (.int i4), .val (.int (i0 % (17 : Int32))), .val (.int (i1 &&& (1048575 : Int32))), .val (.int (i2 &&& (1023 : Int32))), .val (.int ((i3 &&& (2147483647 : Int32)) % (5 : Int32))), .val (.int (i4 &&& (7 : Int32))), .val (.int ((1 : Int32) <<< ((i4 &&& (7 : Int32)) &&& 31))), .val (.double (FP.ddiv (FP.i2d ((i3 &&& (2147483647 : Int32)) % (5 : Int32))) (4616189618054758400 : UInt64))), .second, .unset, .unset, .unset, .unset] [(.int (i0 % (17 : Int32)))])) _
    refine XS.i2dS X0.here hx rfl (hb hby at_51) rfl rfl ?_
    refine XS.iload X0.here hx rfl (hb hby at_52) rfl ?_
    show Steps p.tables e below (s₁.setTop (mkF m 54 #[.val (.int i0), .val (.int i1), .val (.int i2), .val (.int i3), .val (.int i4), .val (.int (i0 % (17 : Int32))), .val (.int (i1 &&& (1048575 : Int32))), .val (.int (i2 &&& (1023 : Int32))), .val (.int ((i3 &&& (2147483647 : Int32)) % (5 : Int32))), .val (.int (i4 &&& (7 : Int32))), .val (.int ((1 : Int32) <<< ((i4 &&& (7 : Int32)) &&& 31))), .val (.double (FP.ddiv (FP.i2d ((i3 &&& (2147483647 : Int32)) % (5 : Int32))) (4616189618054758400 : UInt64))), .second, .unset, .unset, .unset, .unset] [(.int (i1 &&& (1048575 : Int32))), (.double (FP.i2d (i0 % (17 : Int32))))])) _
    refine XS.i2dS X0.here hx rfl (hb hby at_54) rfl rfl ?_
    show Steps p.tables e below (s₁.setTop (mkF m 55 #[.val (.int i0), .val (.int i1), .val (.int i2), .val (.int i3), .val (.int i4), .val (.int (i0 % (17 : Int32))), .val (.int (i1 &&& (1048575 : Int32))), .val (.int (i2 &&& (1023 : Int32))), .val (.int ((i3 &&& (2147483647 : Int32)) % (5 : Int32))), .val (.int (i4 &&& (7 : Int32))), .val (.int ((1 : Int32) <<< ((i4 &&& (7 : Int32)) &&& 31))), .val (.double (FP.ddiv (FP.i2d ((i3 &&& (2147483647 : Int32)) % (5 : Int32))) (4616189618054758400 : UInt64))), .second, .unset, .unset, .unset, .unset] [(.double (FP.i2d (i1 &&& (1048575 : Int32)))), (.double (FP.i2d (i0 % (17 : Int32))))])) _
    refine XS.iload X0.here hx rfl (hb hby at_55) rfl ?_
    show Steps p.tables e below (s₁.setTop (mkF m 57 #[.val (.int i0), .val (.int i1), .val (.int i2), .val (.int i3), .val (.int i4), .val (.int (i0 % (17 : Int32))), .val (.int (i1 &&& (1048575 : Int32))), .val (.int (i2 &&& (1023 : Int32))), .val (.int ((i3 &&& (2147483647 : Int32)) % (5 : Int32))), .val (.int (i4 &&& (7 : Int32))), .val (.int ((1 : Int32) <<< ((i4 &&& (7 : Int32)) &&& 31))), .val (.double (FP.ddiv (FP.i2d ((i3 &&& (2147483647 : Int32)) % (5 : Int32))) (4616189618054758400 : UInt64))), .second, .unset, .unset, .unset, .unset] [(.int (i2 &&& (1023 : Int32))), (.double (FP.i2d (i1 &&& (1048575 : Int32)))), (.double (FP.i2d (i0 % (17 : Int32))))])) _
    refine XS.i2dS X0.here hx rfl (hb hby at_57) rfl rfl ?_
    refine XS.dload X0.here hx rfl (hb hby at_58) rfl ?_
    refine XS.iload X0.here hx rfl (hb hby at_60) rfl ?_
    show Steps p.tables e below (s₁.setTop (mkF m 62 #[.val (.int i0), .val (.int i1), .val (.int i2), .val (.int i3), .val (.int i4), .val (.int (i0 % (17 : Int32))), .val (.int (i1 &&& (1048575 : Int32))), .val (.int (i2 &&& (1023 : Int32))), .val (.int ((i3 &&& (2147483647 : Int32)) % (5 : Int32))), .val (.int (i4 &&& (7 : Int32))), .val (.int ((1 : Int32) <<< ((i4 &&& (7 : Int32)) &&& 31))), .val (.double (FP.ddiv (FP.i2d ((i3 &&& (2147483647 : Int32)) % (5 : Int32))) (4616189618054758400 : UInt64))), .second, .unset, .unset, .unset, .unset] [(.int ((1 : Int32) <<< ((i4 &&& (7 : Int32)) &&& 31))), (.double (FP.ddiv (FP.i2d ((i3 &&& (2147483647 : Int32)) % (5 : Int32))) (4616189618054758400 : UInt64))), (.double (FP.i2d (i2 &&& (1023 : Int32)))), (.double (FP.i2d (i1 &&& (1048575 : Int32)))), (.double (FP.i2d (i0 % (17 : Int32))))])) _
    refine XS.i2dS X0.here hx rfl (hb hby at_62) rfl rfl ?_
    show Steps p.tables e below (s₁.setTop (mkF m 63 #[.val (.int i0), .val (.int i1), .val (.int i2), .val (.int i3), .val (.int i4), .val (.int (i0 % (17 : Int32))), .val (.int (i1 &&& (1048575 : Int32))), .val (.int (i2 &&& (1023 : Int32))), .val (.int ((i3 &&& (2147483647 : Int32)) % (5 : Int32))), .val (.int (i4 &&& (7 : Int32))), .val (.int ((1 : Int32) <<< ((i4 &&& (7 : Int32)) &&& 31))), .val (.double (FP.ddiv (FP.i2d ((i3 &&& (2147483647 : Int32)) % (5 : Int32))) (4616189618054758400 : UInt64))), .second, .unset, .unset, .unset, .unset] [(.double (FP.i2d ((1 : Int32) <<< ((i4 &&& (7 : Int32)) &&& 31)))), (.double (FP.ddiv (FP.i2d ((i3 &&& (2147483647 : Int32)) % (5 : Int32))) (4616189618054758400 : UInt64))), (.double (FP.i2d (i2 &&& (1023 : Int32)))), (.double (FP.i2d (i1 &&& (1048575 : Int32)))), (.double (FP.i2d (i0 % (17 : Int32))))])) _
    refine st31 _ ?_
    show Steps p.tables e below (T31.setTop (mkF m 66 #[.val (.int i0), .val (.int i1), .val (.int i2), .val (.int i3), .val (.int i4), .val (.int (i0 % (17 : Int32))), .val (.int (i1 &&& (1048575 : Int32))), .val (.int (i2 &&& (1023 : Int32))), .val (.int ((i3 &&& (2147483647 : Int32)) % (5 : Int32))), .val (.int (i4 &&& (7 : Int32))), .val (.int ((1 : Int32) <<< ((i4 &&& (7 : Int32)) &&& 31))), .val (.double (FP.ddiv (FP.i2d ((i3 &&& (2147483647 : Int32)) % (5 : Int32))) (4616189618054758400 : UInt64))), .second, .unset, .unset, .unset, .unset] [(.double (FP.dmul (FP.i2d (i0 % (17 : Int32))) (FP.dsub (FP.ddiv (FP.dadd (FP.i2d (i1 &&& (1048575 : Int32))) (FP.dmul (FP.ddiv (FP.i2d ((i3 &&& (2147483647 : Int32)) % (5 : Int32))) (4616189618054758400 : UInt64)) (FP.i2d (i2 &&& (1023 : Int32))))) (FP.i2d ((1 : Int32) <<< ((i4 &&& (7 : Int32)) &&& 31)))) FP.dconst1)))])) _
    refine XS.dstore X31.here hx rfl (hb hby at_66) rfl (l' := #[.val (.int i0), .val (.int i1), .val (.int i2), .val (.int i3), .val (.int i4), .val (.int (i0 % (17 : Int32))), .val (.int (i1 &&& (1048575 : Int32))), .val (.int (i2 &&& (1023 : Int32))), .val (.int ((i3 &&& (2147483647 : Int32)) % (5 : Int32))), .val (.int (i4 &&& (7 : Int32))), .val (.int ((1 : Int32) <<< ((i4 &&& (7 : Int32)) &&& 31))), .val (.double (FP.ddiv (FP.i2d ((i3 &&& (2147483647 : Int32)) % (5 : Int32))) (4616189618054758400 : UInt64))), .second, .val (.double (FP.dmul (FP.i2d (i0 % (17 : Int32))) (FP.dsub (FP.ddiv (FP.dadd (FP.i2d (i1 &&& (1048575 : Int32))) (FP.dmul (FP.ddiv (FP.i2d ((i3 &&& (2147483647 : Int32)) % (5 : Int32))) (4616189618054758400 : UInt64)) (FP.i2d (i2 &&& (1023 : Int32))))) (FP.i2d ((1 : Int32) <<< ((i4 &&& (7 : Int32)) &&& 31)))) FP.dconst1))), .second, .unset, .unset]) rfl ?_
    refine XS.iload X31.here hx rfl (hb hby at_68) rfl ?_
    show Steps p.tables e below (T31.setTop (mkF m 70 #[.val (.int i0), .val (.int i1), .val (.int i2), .val (.int i3), .val (.int i4), .val (.int (i0 % (17 : Int32))), .val (.int (i1 &&& (1048575 : Int32))), .val (.int (i2 &&& (1023 : Int32))), .val (.int ((i3 &&& (2147483647 : Int32)) % (5 : Int32))), .val (.int (i4 &&& (7 : Int32))), .val (.int ((1 : Int32) <<< ((i4 &&& (7 : Int32)) &&& 31))), .val (.double (FP.ddiv (FP.i2d ((i3 &&& (2147483647 : Int32)) % (5 : Int32))) (4616189618054758400 : UInt64))), .second, .val (.double (FP.dmul (FP.i2d (i0 % (17 : Int32))) (FP.dsub (FP.ddiv (FP.dadd (FP.i2d (i1 &&& (1048575 : Int32))) (FP.dmul (FP.ddiv (FP.i2d ((i3 &&& (2147483647 : Int32)) % (5 : Int32))) (4616189618054758400 : UInt64)) (FP.i2d (i2 &&& (1023 : Int32))))) (FP.i2d ((1 : Int32) <<< ((i4 &&& (7 : Int32)) &&& 31)))) FP.dconst1))), .second, .unset, .unset] [(.int (i0 % (17 : Int32)))])) _
    refine XS.i2l X31.here hx rfl (hb hby at_70) rfl ?_
    show Steps p.tables e below (T31.setTop (mkF m 71 #[.val (.int i0), .val (.int i1), .val (.int i2), .val (.int i3), .val (.int i4), .val (.int (i0 % (17 : Int32))), .val (.int (i1 &&& (1048575 : Int32))), .val (.int (i2 &&& (1023 : Int32))), .val (.int ((i3 &&& (2147483647 : Int32)) % (5 : Int32))), .val (.int (i4 &&& (7 : Int32))), .val (.int ((1 : Int32) <<< ((i4 &&& (7 : Int32)) &&& 31))), .val (.double (FP.ddiv (FP.i2d ((i3 &&& (2147483647 : Int32)) % (5 : Int32))) (4616189618054758400 : UInt64))), .second, .val (.double (FP.dmul (FP.i2d (i0 % (17 : Int32))) (FP.dsub (FP.ddiv (FP.dadd (FP.i2d (i1 &&& (1048575 : Int32))) (FP.dmul (FP.ddiv (FP.i2d ((i3 &&& (2147483647 : Int32)) % (5 : Int32))) (4616189618054758400 : UInt64)) (FP.i2d (i2 &&& (1023 : Int32))))) (FP.i2d ((1 : Int32) <<< ((i4 &&& (7 : Int32)) &&& 31)))) FP.dconst1))), .second, .unset, .unset] [(.long ((i0 % (17 : Int32)).toInt64))])) _
    refine X31.ldc2Long hx hown (mvT hZ (hw _ (List.mem_of_getElem? (i := 7) rfl))) (g := (mkF m 71 #[.val (.int i0), .val (.int i1), .val (.int i2), .val (.int i3), .val (.int i4), .val (.int (i0 % (17 : Int32))), .val (.int (i1 &&& (1048575 : Int32))), .val (.int (i2 &&& (1023 : Int32))), .val (.int ((i3 &&& (2147483647 : Int32)) % (5 : Int32))), .val (.int (i4 &&& (7 : Int32))), .val (.int ((1 : Int32) <<< ((i4 &&& (7 : Int32)) &&& 31))), .val (.double (FP.ddiv (FP.i2d ((i3 &&& (2147483647 : Int32)) % (5 : Int32))) (4616189618054758400 : UInt64))), .second, .val (.double (FP.dmul (FP.i2d (i0 % (17 : Int32))) (FP.dsub (FP.ddiv (FP.dadd (FP.i2d (i1 &&& (1048575 : Int32))) (FP.dmul (FP.ddiv (FP.i2d ((i3 &&& (2147483647 : Int32)) % (5 : Int32))) (4616189618054758400 : UInt64)) (FP.i2d (i2 &&& (1023 : Int32))))) (FP.i2d ((1 : Int32) <<< ((i4 &&& (7 : Int32)) &&& 31)))) FP.dconst1))), .second, .unset, .unset] [(.long ((i0 % (17 : Int32)).toInt64))])) rfl (hb hby at_71) _ ?_
    refine XS.iload X31.here hx rfl (hb hby at_74) rfl ?_
    show Steps p.tables e below (T31.setTop (mkF m 76 #[.val (.int i0), .val (.int i1), .val (.int i2), .val (.int i3), .val (.int i4), .val (.int (i0 % (17 : Int32))), .val (.int (i1 &&& (1048575 : Int32))), .val (.int (i2 &&& (1023 : Int32))), .val (.int ((i3 &&& (2147483647 : Int32)) % (5 : Int32))), .val (.int (i4 &&& (7 : Int32))), .val (.int ((1 : Int32) <<< ((i4 &&& (7 : Int32)) &&& 31))), .val (.double (FP.ddiv (FP.i2d ((i3 &&& (2147483647 : Int32)) % (5 : Int32))) (4616189618054758400 : UInt64))), .second, .val (.double (FP.dmul (FP.i2d (i0 % (17 : Int32))) (FP.dsub (FP.ddiv (FP.dadd (FP.i2d (i1 &&& (1048575 : Int32))) (FP.dmul (FP.ddiv (FP.i2d ((i3 &&& (2147483647 : Int32)) % (5 : Int32))) (4616189618054758400 : UInt64)) (FP.i2d (i2 &&& (1023 : Int32))))) (FP.i2d ((1 : Int32) <<< ((i4 &&& (7 : Int32)) &&& 31)))) FP.dconst1))), .second, .unset, .unset] [(.int (i1 &&& (1048575 : Int32))), (.long (4 : Int64)), (.long ((i0 % (17 : Int32)).toInt64))])) _
    refine XS.i2l X31.here hx rfl (hb hby at_76) rfl ?_
    show Steps p.tables e below (T31.setTop (mkF m 77 #[.val (.int i0), .val (.int i1), .val (.int i2), .val (.int i3), .val (.int i4), .val (.int (i0 % (17 : Int32))), .val (.int (i1 &&& (1048575 : Int32))), .val (.int (i2 &&& (1023 : Int32))), .val (.int ((i3 &&& (2147483647 : Int32)) % (5 : Int32))), .val (.int (i4 &&& (7 : Int32))), .val (.int ((1 : Int32) <<< ((i4 &&& (7 : Int32)) &&& 31))), .val (.double (FP.ddiv (FP.i2d ((i3 &&& (2147483647 : Int32)) % (5 : Int32))) (4616189618054758400 : UInt64))), .second, .val (.double (FP.dmul (FP.i2d (i0 % (17 : Int32))) (FP.dsub (FP.ddiv (FP.dadd (FP.i2d (i1 &&& (1048575 : Int32))) (FP.dmul (FP.ddiv (FP.i2d ((i3 &&& (2147483647 : Int32)) % (5 : Int32))) (4616189618054758400 : UInt64)) (FP.i2d (i2 &&& (1023 : Int32))))) (FP.i2d ((1 : Int32) <<< ((i4 &&& (7 : Int32)) &&& 31)))) FP.dconst1))), .second, .unset, .unset] [(.long ((i1 &&& (1048575 : Int32)).toInt64)), (.long (4 : Int64)), (.long ((i0 % (17 : Int32)).toInt64))])) _
    refine XS.lmul X31.here hx rfl (hb hby at_77) rfl ?_
    refine XS.iload X31.here hx rfl (hb hby at_78) rfl ?_
    show Steps p.tables e below (T31.setTop (mkF m 80 #[.val (.int i0), .val (.int i1), .val (.int i2), .val (.int i3), .val (.int i4), .val (.int (i0 % (17 : Int32))), .val (.int (i1 &&& (1048575 : Int32))), .val (.int (i2 &&& (1023 : Int32))), .val (.int ((i3 &&& (2147483647 : Int32)) % (5 : Int32))), .val (.int (i4 &&& (7 : Int32))), .val (.int ((1 : Int32) <<< ((i4 &&& (7 : Int32)) &&& 31))), .val (.double (FP.ddiv (FP.i2d ((i3 &&& (2147483647 : Int32)) % (5 : Int32))) (4616189618054758400 : UInt64))), .second, .val (.double (FP.dmul (FP.i2d (i0 % (17 : Int32))) (FP.dsub (FP.ddiv (FP.dadd (FP.i2d (i1 &&& (1048575 : Int32))) (FP.dmul (FP.ddiv (FP.i2d ((i3 &&& (2147483647 : Int32)) % (5 : Int32))) (4616189618054758400 : UInt64)) (FP.i2d (i2 &&& (1023 : Int32))))) (FP.i2d ((1 : Int32) <<< ((i4 &&& (7 : Int32)) &&& 31)))) FP.dconst1))), .second, .unset, .unset] [(.int ((i3 &&& (2147483647 : Int32)) % (5 : Int32))), (.long ((4 : Int64) * ((i1 &&& (1048575 : Int32)).toInt64))), (.long ((i0 % (17 : Int32)).toInt64))])) _
    refine XS.i2l X31.here hx rfl (hb hby at_80) rfl ?_
    refine XS.iload X31.here hx rfl (hb hby at_81) rfl ?_
    show Steps p.tables e below (T31.setTop (mkF m 83 #[.val (.int i0), .val (.int i1), .val (.int i2), .val (.int i3), .val (.int i4), .val (.int (i0 % (17 : Int32))), .val (.int (i1 &&& (1048575 : Int32))), .val (.int (i2 &&& (1023 : Int32))), .val (.int ((i3 &&& (2147483647 : Int32)) % (5 : Int32))), .val (.int (i4 &&& (7 : Int32))), .val (.int ((1 : Int32) <<< ((i4 &&& (7 : Int32)) &&& 31))), .val (.double (FP.ddiv (FP.i2d ((i3 &&& (2147483647 : Int32)) % (5 : Int32))) (4616189618054758400 : UInt64))), .second, .val (.double (FP.dmul (FP.i2d (i0 % (17 : Int32))) (FP.dsub (FP.ddiv (FP.dadd (FP.i2d (i1 &&& (1048575 : Int32))) (FP.dmul (FP.ddiv (FP.i2d ((i3 &&& (2147483647 : Int32)) % (5 : Int32))) (4616189618054758400 : UInt64)) (FP.i2d (i2 &&& (1023 : Int32))))) (FP.i2d ((1 : Int32) <<< ((i4 &&& (7 : Int32)) &&& 31)))) FP.dconst1))), .second, .unset, .unset] [(.int (i2 &&& (1023 : Int32))), (.long (((i3 &&& (2147483647 : Int32)) % (5 : Int32)).toInt64)), (.long ((4 : Int64) * ((i1 &&& (1048575 : Int32)).toInt64))), (.long ((i0 % (17 : Int32)).toInt64))])) _
    refine XS.i2l X31.here hx rfl (hb hby at_83) rfl ?_
    show Steps p.tables e below (T31.setTop (mkF m 84 #[.val (.int i0), .val (.int i1), .val (.int i2), .val (.int i3), .val (.int i4), .val (.int (i0 % (17 : Int32))), .val (.int (i1 &&& (1048575 : Int32))), .val (.int (i2 &&& (1023 : Int32))), .val (.int ((i3 &&& (2147483647 : Int32)) % (5 : Int32))), .val (.int (i4 &&& (7 : Int32))), .val (.int ((1 : Int32) <<< ((i4 &&& (7 : Int32)) &&& 31))), .val (.double (FP.ddiv (FP.i2d ((i3 &&& (2147483647 : Int32)) % (5 : Int32))) (4616189618054758400 : UInt64))), .second, .val (.double (FP.dmul (FP.i2d (i0 % (17 : Int32))) (FP.dsub (FP.ddiv (FP.dadd (FP.i2d (i1 &&& (1048575 : Int32))) (FP.dmul (FP.ddiv (FP.i2d ((i3 &&& (2147483647 : Int32)) % (5 : Int32))) (4616189618054758400 : UInt64)) (FP.i2d (i2 &&& (1023 : Int32))))) (FP.i2d ((1 : Int32) <<< ((i4 &&& (7 : Int32)) &&& 31)))) FP.dconst1))), .second, .unset, .unset] [(.long ((i2 &&& (1023 : Int32)).toInt64)), (.long (((i3 &&& (2147483647 : Int32)) % (5 : Int32)).toInt64)), (.long ((4 : Int64) * ((i1 &&& (1048575 : Int32)).toInt64))), (.long ((i0 % (17 : Int32)).toInt64))])) _
    refine XS.lmul X31.here hx rfl (hb hby at_84) rfl ?_
    show Steps p.tables e below (T31.setTop (mkF m 85 #[.val (.int i0), .val (.int i1), .val (.int i2), .val (.int i3), .val (.int i4), .val (.int (i0 % (17 : Int32))), .val (.int (i1 &&& (1048575 : Int32))), .val (.int (i2 &&& (1023 : Int32))), .val (.int ((i3 &&& (2147483647 : Int32)) % (5 : Int32))), .val (.int (i4 &&& (7 : Int32))), .val (.int ((1 : Int32) <<< ((i4 &&& (7 : Int32)) &&& 31))), .val (.double (FP.ddiv (FP.i2d ((i3 &&& (2147483647 : Int32)) % (5 : Int32))) (4616189618054758400 : UInt64))), .second, .val (.double (FP.dmul (FP.i2d (i0 % (17 : Int32))) (FP.dsub (FP.ddiv (FP.dadd (FP.i2d (i1 &&& (1048575 : Int32))) (FP.dmul (FP.ddiv (FP.i2d ((i3 &&& (2147483647 : Int32)) % (5 : Int32))) (4616189618054758400 : UInt64)) (FP.i2d (i2 &&& (1023 : Int32))))) (FP.i2d ((1 : Int32) <<< ((i4 &&& (7 : Int32)) &&& 31)))) FP.dconst1))), .second, .unset, .unset] [(.long ((((i3 &&& (2147483647 : Int32)) % (5 : Int32)).toInt64) * ((i2 &&& (1023 : Int32)).toInt64))), (.long ((4 : Int64) * ((i1 &&& (1048575 : Int32)).toInt64))), (.long ((i0 % (17 : Int32)).toInt64))])) _
    refine XS.ladd X31.here hx rfl (hb hby at_85) rfl ?_
    show Steps p.tables e below (T31.setTop (mkF m 86 #[.val (.int i0), .val (.int i1), .val (.int i2), .val (.int i3), .val (.int i4), .val (.int (i0 % (17 : Int32))), .val (.int (i1 &&& (1048575 : Int32))), .val (.int (i2 &&& (1023 : Int32))), .val (.int ((i3 &&& (2147483647 : Int32)) % (5 : Int32))), .val (.int (i4 &&& (7 : Int32))), .val (.int ((1 : Int32) <<< ((i4 &&& (7 : Int32)) &&& 31))), .val (.double (FP.ddiv (FP.i2d ((i3 &&& (2147483647 : Int32)) % (5 : Int32))) (4616189618054758400 : UInt64))), .second, .val (.double (FP.dmul (FP.i2d (i0 % (17 : Int32))) (FP.dsub (FP.ddiv (FP.dadd (FP.i2d (i1 &&& (1048575 : Int32))) (FP.dmul (FP.ddiv (FP.i2d ((i3 &&& (2147483647 : Int32)) % (5 : Int32))) (4616189618054758400 : UInt64)) (FP.i2d (i2 &&& (1023 : Int32))))) (FP.i2d ((1 : Int32) <<< ((i4 &&& (7 : Int32)) &&& 31)))) FP.dconst1))), .second, .unset, .unset] [(.long (((4 : Int64) * ((i1 &&& (1048575 : Int32)).toInt64)) + ((((i3 &&& (2147483647 : Int32)) % (5 : Int32)).toInt64) * ((i2 &&& (1023 : Int32)).toInt64)))), (.long ((i0 % (17 : Int32)).toInt64))])) _
    refine X31.ldc2Long hx hown (mvT hZ (hw _ (List.mem_of_getElem? (i := 7) rfl))) (g := (mkF m 86 #[.val (.int i0), .val (.int i1), .val (.int i2), .val (.int i3), .val (.int i4), .val (.int (i0 % (17 : Int32))), .val (.int (i1 &&& (1048575 : Int32))), .val (.int (i2 &&& (1023 : Int32))), .val (.int ((i3 &&& (2147483647 : Int32)) % (5 : Int32))), .val (.int (i4 &&& (7 : Int32))), .val (.int ((1 : Int32) <<< ((i4 &&& (7 : Int32)) &&& 31))), .val (.double (FP.ddiv (FP.i2d ((i3 &&& (2147483647 : Int32)) % (5 : Int32))) (4616189618054758400 : UInt64))), .second, .val (.double (FP.dmul (FP.i2d (i0 % (17 : Int32))) (FP.dsub (FP.ddiv (FP.dadd (FP.i2d (i1 &&& (1048575 : Int32))) (FP.dmul (FP.ddiv (FP.i2d ((i3 &&& (2147483647 : Int32)) % (5 : Int32))) (4616189618054758400 : UInt64)) (FP.i2d (i2 &&& (1023 : Int32))))) (FP.i2d ((1 : Int32) <<< ((i4 &&& (7 : Int32)) &&& 31)))) FP.dconst1))), .second, .unset, .unset] [(.long (((4 : Int64) * ((i1 &&& (1048575 : Int32)).toInt64)) + ((((i3 &&& (2147483647 : Int32)) % (5 : Int32)).toInt64) * ((i2 &&& (1023 : Int32)).toInt64)))), (.long ((i0 % (17 : Int32)).toInt64))])) rfl (hb hby at_86) _ ?_
    show Steps p.tables e below (T31.setTop (mkF m 89 #[.val (.int i0), .val (.int i1), .val (.int i2), .val (.int i3), .val (.int i4), .val (.int (i0 % (17 : Int32))), .val (.int (i1 &&& (1048575 : Int32))), .val (.int (i2 &&& (1023 : Int32))), .val (.int ((i3 &&& (2147483647 : Int32)) % (5 : Int32))), .val (.int (i4 &&& (7 : Int32))), .val (.int ((1 : Int32) <<< ((i4 &&& (7 : Int32)) &&& 31))), .val (.double (FP.ddiv (FP.i2d ((i3 &&& (2147483647 : Int32)) % (5 : Int32))) (4616189618054758400 : UInt64))), .second, .val (.double (FP.dmul (FP.i2d (i0 % (17 : Int32))) (FP.dsub (FP.ddiv (FP.dadd (FP.i2d (i1 &&& (1048575 : Int32))) (FP.dmul (FP.ddiv (FP.i2d ((i3 &&& (2147483647 : Int32)) % (5 : Int32))) (4616189618054758400 : UInt64)) (FP.i2d (i2 &&& (1023 : Int32))))) (FP.i2d ((1 : Int32) <<< ((i4 &&& (7 : Int32)) &&& 31)))) FP.dconst1))), .second, .unset, .unset] [(.long (4 : Int64)), (.long (((4 : Int64) * ((i1 &&& (1048575 : Int32)).toInt64)) + ((((i3 &&& (2147483647 : Int32)) % (5 : Int32)).toInt64) * ((i2 &&& (1023 : Int32)).toInt64)))), (.long ((i0 % (17 : Int32)).toInt64))])) _
    refine XS.iload X31.here hx rfl (hb hby at_89) rfl ?_
    show Steps p.tables e below (T31.setTop (mkF m 91 #[.val (.int i0), .val (.int i1), .val (.int i2), .val (.int i3), .val (.int i4), .val (.int (i0 % (17 : Int32))), .val (.int (i1 &&& (1048575 : Int32))), .val (.int (i2 &&& (1023 : Int32))), .val (.int ((i3 &&& (2147483647 : Int32)) % (5 : Int32))), .val (.int (i4 &&& (7 : Int32))), .val (.int ((1 : Int32) <<< ((i4 &&& (7 : Int32)) &&& 31))), .val (.double (FP.ddiv (FP.i2d ((i3 &&& (2147483647 : Int32)) % (5 : Int32))) (4616189618054758400 : UInt64))), .second, .val (.double (FP.dmul (FP.i2d (i0 % (17 : Int32))) (FP.dsub (FP.ddiv (FP.dadd (FP.i2d (i1 &&& (1048575 : Int32))) (FP.dmul (FP.ddiv (FP.i2d ((i3 &&& (2147483647 : Int32)) % (5 : Int32))) (4616189618054758400 : UInt64)) (FP.i2d (i2 &&& (1023 : Int32))))) (FP.i2d ((1 : Int32) <<< ((i4 &&& (7 : Int32)) &&& 31)))) FP.dconst1))), .second, .unset, .unset] [(.int ((1 : Int32) <<< ((i4 &&& (7 : Int32)) &&& 31))), (.long (4 : Int64)), (.long (((4 : Int64) * ((i1 &&& (1048575 : Int32)).toInt64)) + ((((i3 &&& (2147483647 : Int32)) % (5 : Int32)).toInt64) * ((i2 &&& (1023 : Int32)).toInt64)))), (.long ((i0 % (17 : Int32)).toInt64))])) _
    refine XS.i2l X31.here hx rfl (hb hby at_91) rfl ?_
    show Steps p.tables e below (T31.setTop (mkF m 92 #[.val (.int i0), .val (.int i1), .val (.int i2), .val (.int i3), .val (.int i4), .val (.int (i0 % (17 : Int32))), .val (.int (i1 &&& (1048575 : Int32))), .val (.int (i2 &&& (1023 : Int32))), .val (.int ((i3 &&& (2147483647 : Int32)) % (5 : Int32))), .val (.int (i4 &&& (7 : Int32))), .val (.int ((1 : Int32) <<< ((i4 &&& (7 : Int32)) &&& 31))), .val (.double (FP.ddiv (FP.i2d ((i3 &&& (2147483647 : Int32)) % (5 : Int32))) (4616189618054758400 : UInt64))), .second, .val (.double (FP.dmul (FP.i2d (i0 % (17 : Int32))) (FP.dsub (FP.ddiv (FP.dadd (FP.i2d (i1 &&& (1048575 : Int32))) (FP.dmul (FP.ddiv (FP.i2d ((i3 &&& (2147483647 : Int32)) % (5 : Int32))) (4616189618054758400 : UInt64)) (FP.i2d (i2 &&& (1023 : Int32))))) (FP.i2d ((1 : Int32) <<< ((i4 &&& (7 : Int32)) &&& 31)))) FP.dconst1))), .second, .unset, .unset] [(.long (((1 : Int32) <<< ((i4 &&& (7 : Int32)) &&& 31)).toInt64)), (.long (4 : Int64)), (.long (((4 : Int64) * ((i1 &&& (1048575 : Int32)).toInt64)) + ((((i3 &&& (2147483647 : Int32)) % (5 : Int32)).toInt64) * ((i2 &&& (1023 : Int32)).toInt64)))), (.long ((i0 % (17 : Int32)).toInt64))])) _
    refine XS.lmul X31.here hx rfl (hb hby at_92) rfl ?_
    show Steps p.tables e below (T31.setTop (mkF m 93 #[.val (.int i0), .val (.int i1), .val (.int i2), .val (.int i3), .val (.int i4), .val (.int (i0 % (17 : Int32))), .val (.int (i1 &&& (1048575 : Int32))), .val (.int (i2 &&& (1023 : Int32))), .val (.int ((i3 &&& (2147483647 : Int32)) % (5 : Int32))), .val (.int (i4 &&& (7 : Int32))), .val (.int ((1 : Int32) <<< ((i4 &&& (7 : Int32)) &&& 31))), .val (.double (FP.ddiv (FP.i2d ((i3 &&& (2147483647 : Int32)) % (5 : Int32))) (4616189618054758400 : UInt64))), .second, .val (.double (FP.dmul (FP.i2d (i0 % (17 : Int32))) (FP.dsub (FP.ddiv (FP.dadd (FP.i2d (i1 &&& (1048575 : Int32))) (FP.dmul (FP.ddiv (FP.i2d ((i3 &&& (2147483647 : Int32)) % (5 : Int32))) (4616189618054758400 : UInt64)) (FP.i2d (i2 &&& (1023 : Int32))))) (FP.i2d ((1 : Int32) <<< ((i4 &&& (7 : Int32)) &&& 31)))) FP.dconst1))), .second, .unset, .unset] [(.long ((4 : Int64) * (((1 : Int32) <<< ((i4 &&& (7 : Int32)) &&& 31)).toInt64))), (.long (((4 : Int64) * ((i1 &&& (1048575 : Int32)).toInt64)) + ((((i3 &&& (2147483647 : Int32)) % (5 : Int32)).toInt64) * ((i2 &&& (1023 : Int32)).toInt64)))), (.long ((i0 % (17 : Int32)).toInt64))])) _
    refine XS.lsub X31.here hx rfl (hb hby at_93) rfl ?_
    show Steps p.tables e below (T31.setTop (mkF m 94 #[.val (.int i0), .val (.int i1), .val (.int i2), .val (.int i3), .val (.int i4), .val (.int (i0 % (17 : Int32))), .val (.int (i1 &&& (1048575 : Int32))), .val (.int (i2 &&& (1023 : Int32))), .val (.int ((i3 &&& (2147483647 : Int32)) % (5 : Int32))), .val (.int (i4 &&& (7 : Int32))), .val (.int ((1 : Int32) <<< ((i4 &&& (7 : Int32)) &&& 31))), .val (.double (FP.ddiv (FP.i2d ((i3 &&& (2147483647 : Int32)) % (5 : Int32))) (4616189618054758400 : UInt64))), .second, .val (.double (FP.dmul (FP.i2d (i0 % (17 : Int32))) (FP.dsub (FP.ddiv (FP.dadd (FP.i2d (i1 &&& (1048575 : Int32))) (FP.dmul (FP.ddiv (FP.i2d ((i3 &&& (2147483647 : Int32)) % (5 : Int32))) (4616189618054758400 : UInt64)) (FP.i2d (i2 &&& (1023 : Int32))))) (FP.i2d ((1 : Int32) <<< ((i4 &&& (7 : Int32)) &&& 31)))) FP.dconst1))), .second, .unset, .unset] [(.long ((((4 : Int64) * ((i1 &&& (1048575 : Int32)).toInt64)) + ((((i3 &&& (2147483647 : Int32)) % (5 : Int32)).toInt64) * ((i2 &&& (1023 : Int32)).toInt64))) - ((4 : Int64) * (((1 : Int32) <<< ((i4 &&& (7 : Int32)) &&& 31)).toInt64)))), (.long ((i0 % (17 : Int32)).toInt64))])) _
    refine XS.lmul X31.here hx rfl (hb hby at_94) rfl ?_
    show Steps p.tables e below (T31.setTop (mkF m 95 #[.val (.int i0), .val (.int i1), .val (.int i2), .val (.int i3), .val (.int i4), .val (.int (i0 % (17 : Int32))), .val (.int (i1 &&& (1048575 : Int32))), .val (.int (i2 &&& (1023 : Int32))), .val (.int ((i3 &&& (2147483647 : Int32)) % (5 : Int32))), .val (.int (i4 &&& (7 : Int32))), .val (.int ((1 : Int32) <<< ((i4 &&& (7 : Int32)) &&& 31))), .val (.double (FP.ddiv (FP.i2d ((i3 &&& (2147483647 : Int32)) % (5 : Int32))) (4616189618054758400 : UInt64))), .second, .val (.double (FP.dmul (FP.i2d (i0 % (17 : Int32))) (FP.dsub (FP.ddiv (FP.dadd (FP.i2d (i1 &&& (1048575 : Int32))) (FP.dmul (FP.ddiv (FP.i2d ((i3 &&& (2147483647 : Int32)) % (5 : Int32))) (4616189618054758400 : UInt64)) (FP.i2d (i2 &&& (1023 : Int32))))) (FP.i2d ((1 : Int32) <<< ((i4 &&& (7 : Int32)) &&& 31)))) FP.dconst1))), .second, .unset, .unset] [(.long (((i0 % (17 : Int32)).toInt64) * ((((4 : Int64) * ((i1 &&& (1048575 : Int32)).toInt64)) + ((((i3 &&& (2147483647 : Int32)) % (5 : Int32)).toInt64) * ((i2 &&& (1023 : Int32)).toInt64))) - ((4 : Int64) * (((1 : Int32) <<< ((i4 &&& (7 : Int32)) &&& 31)).toInt64)))))])) _
    refine XS.lstore X31.here hx rfl (hb hby at_95) rfl (l' := #[.val (.int i0), .val (.int i1), .val (.int i2), .val (.int i3), .val (.int i4), .val (.int (i0 % (17 : Int32))), .val (.int (i1 &&& (1048575 : Int32))), .val (.int (i2 &&& (1023 : Int32))), .val (.int ((i3 &&& (2147483647 : Int32)) % (5 : Int32))), .val (.int (i4 &&& (7 : Int32))), .val (.int ((1 : Int32) <<< ((i4 &&& (7 : Int32)) &&& 31))), .val (.double (FP.ddiv (FP.i2d ((i3 &&& (2147483647 : Int32)) % (5 : Int32))) (4616189618054758400 : UInt64))), .second, .val (.double (FP.dmul (FP.i2d (i0 % (17 : Int32))) (FP.dsub (FP.ddiv (FP.dadd (FP.i2d (i1 &&& (1048575 : Int32))) (FP.dmul (FP.ddiv (FP.i2d ((i3 &&& (2147483647 : Int32)) % (5 : Int32))) (4616189618054758400 : UInt64)) (FP.i2d (i2 &&& (1023 : Int32))))) (FP.i2d ((1 : Int32) <<< ((i4 &&& (7 : Int32)) &&& 31)))) FP.dconst1))), .second, .val (.long (((i0 % (17 : Int32)).toInt64) * ((((4 : Int64) * ((i1 &&& (1048575 : Int32)).toInt64)) + ((((i3 &&& (2147483647 : Int32)) % (5 : Int32)).toInt64) * ((i2 &&& (1023 : Int32)).toInt64))) - ((4 : Int64) * (((1 : Int32) <<< ((i4 &&& (7 : Int32)) &&& 31)).toInt64))))), .second]) rfl ?_
    refine XS.dload X31.here hx rfl (hb hby at_97) rfl ?_
    show Steps p.tables e below (T31.setTop (mkF m 99 #[.val (.int i0), .val (.int i1), .val (.int i2), .val (.int i3), .val (.int i4), .val (.int (i0 % (17 : Int32))), .val (.int (i1 &&& (1048575 : Int32))), .val (.int (i2 &&& (1023 : Int32))), .val (.int ((i3 &&& (2147483647 : Int32)) % (5 : Int32))), .val (.int (i4 &&& (7 : Int32))), .val (.int ((1 : Int32) <<< ((i4 &&& (7 : Int32)) &&& 31))), .val (.double (FP.ddiv (FP.i2d ((i3 &&& (2147483647 : Int32)) % (5 : Int32))) (4616189618054758400 : UInt64))), .second, .val (.double (FP.dmul (FP.i2d (i0 % (17 : Int32))) (FP.dsub (FP.ddiv (FP.dadd (FP.i2d (i1 &&& (1048575 : Int32))) (FP.dmul (FP.ddiv (FP.i2d ((i3 &&& (2147483647 : Int32)) % (5 : Int32))) (4616189618054758400 : UInt64)) (FP.i2d (i2 &&& (1023 : Int32))))) (FP.i2d ((1 : Int32) <<< ((i4 &&& (7 : Int32)) &&& 31)))) FP.dconst1))), .second, .val (.long (((i0 % (17 : Int32)).toInt64) * ((((4 : Int64) * ((i1 &&& (1048575 : Int32)).toInt64)) + ((((i3 &&& (2147483647 : Int32)) % (5 : Int32)).toInt64) * ((i2 &&& (1023 : Int32)).toInt64))) - ((4 : Int64) * (((1 : Int32) <<< ((i4 &&& (7 : Int32)) &&& 31)).toInt64))))), .second] [(.double (FP.dmul (FP.i2d (i0 % (17 : Int32))) (FP.dsub (FP.ddiv (FP.dadd (FP.i2d (i1 &&& (1048575 : Int32))) (FP.dmul (FP.ddiv (FP.i2d ((i3 &&& (2147483647 : Int32)) % (5 : Int32))) (4616189618054758400 : UInt64)) (FP.i2d (i2 &&& (1023 : Int32))))) (FP.i2d ((1 : Int32) <<< ((i4 &&& (7 : Int32)) &&& 31)))) FP.dconst1)))])) _
    refine X31.ldc2DoubleC hx hown (mvT hZ (hw _ (List.mem_of_getElem? (i := 2) rfl))) (g := (mkF m 99 #[.val (.int i0), .val (.int i1), .val (.int i2), .val (.int i3), .val (.int i4), .val (.int (i0 % (17 : Int32))), .val (.int (i1 &&& (1048575 : Int32))), .val (.int (i2 &&& (1023 : Int32))), .val (.int ((i3 &&& (2147483647 : Int32)) % (5 : Int32))), .val (.int (i4 &&& (7 : Int32))), .val (.int ((1 : Int32) <<< ((i4 &&& (7 : Int32)) &&& 31))), .val (.double (FP.ddiv (FP.i2d ((i3 &&& (2147483647 : Int32)) % (5 : Int32))) (4616189618054758400 : UInt64))), .second, .val (.double (FP.dmul (FP.i2d (i0 % (17 : Int32))) (FP.dsub (FP.ddiv (FP.dadd (FP.i2d (i1 &&& (1048575 : Int32))) (FP.dmul (FP.ddiv (FP.i2d ((i3 &&& (2147483647 : Int32)) % (5 : Int32))) (4616189618054758400 : UInt64)) (FP.i2d (i2 &&& (1023 : Int32))))) (FP.i2d ((1 : Int32) <<< ((i4 &&& (7 : Int32)) &&& 31)))) FP.dconst1))), .second, .val (.long (((i0 % (17 : Int32)).toInt64) * ((((4 : Int64) * ((i1 &&& (1048575 : Int32)).toInt64)) + ((((i3 &&& (2147483647 : Int32)) % (5 : Int32)).toInt64) * ((i2 &&& (1023 : Int32)).toInt64))) - ((4 : Int64) * (((1 : Int32) <<< ((i4 &&& (7 : Int32)) &&& 31)).toInt64))))), .second] [(.double (FP.dmul (FP.i2d (i0 % (17 : Int32))) (FP.dsub (FP.ddiv (FP.dadd (FP.i2d (i1 &&& (1048575 : Int32))) (FP.dmul (FP.ddiv (FP.i2d ((i3 &&& (2147483647 : Int32)) % (5 : Int32))) (4616189618054758400 : UInt64)) (FP.i2d (i2 &&& (1023 : Int32))))) (FP.i2d ((1 : Int32) <<< ((i4 &&& (7 : Int32)) &&& 31)))) FP.dconst1)))])) rfl (hb hby at_99) _ ?_
    show Steps p.tables e below (T31.setTop (mkF m 102 #[.val (.int i0), .val (.int i1), .val (.int i2), .val (.int i3), .val (.int i4), .val (.int (i0 % (17 : Int32))), .val (.int (i1 &&& (1048575 : Int32))), .val (.int (i2 &&& (1023 : Int32))), .val (.int ((i3 &&& (2147483647 : Int32)) % (5 : Int32))), .val (.int (i4 &&& (7 : Int32))), .val (.int ((1 : Int32) <<< ((i4 &&& (7 : Int32)) &&& 31))), .val (.double (FP.ddiv (FP.i2d ((i3 &&& (2147483647 : Int32)) % (5 : Int32))) (4616189618054758400 : UInt64))), .second, .val (.double (FP.dmul (FP.i2d (i0 % (17 : Int32))) (FP.dsub (FP.ddiv (FP.dadd (FP.i2d (i1 &&& (1048575 : Int32))) (FP.dmul (FP.ddiv (FP.i2d ((i3 &&& (2147483647 : Int32)) % (5 : Int32))) (4616189618054758400 : UInt64)) (FP.i2d (i2 &&& (1023 : Int32))))) (FP.i2d ((1 : Int32) <<< ((i4 &&& (7 : Int32)) &&& 31)))) FP.dconst1))), .second, .val (.long (((i0 % (17 : Int32)).toInt64) * ((((4 : Int64) * ((i1 &&& (1048575 : Int32)).toInt64)) + ((((i3 &&& (2147483647 : Int32)) % (5 : Int32)).toInt64) * ((i2 &&& (1023 : Int32)).toInt64))) - ((4 : Int64) * (((1 : Int32) <<< ((i4 &&& (7 : Int32)) &&& 31)).toInt64))))), .second] [(.double (4616189618054758400 : UInt64)), (.double (FP.dmul (FP.i2d (i0 % (17 : Int32))) (FP.dsub (FP.ddiv (FP.dadd (FP.i2d (i1 &&& (1048575 : Int32))) (FP.dmul (FP.ddiv (FP.i2d ((i3 &&& (2147483647 : Int32)) % (5 : Int32))) (4616189618054758400 : UInt64)) (FP.i2d (i2 &&& (1023 : Int32))))) (FP.i2d ((1 : Int32) <<< ((i4 &&& (7 : Int32)) &&& 31)))) FP.dconst1)))])) _
    refine XS.iload X31.here hx rfl (hb hby at_102) rfl ?_
    show Steps p.tables e below (T31.setTop (mkF m 104 #[.val (.int i0), .val (.int i1), .val (.int i2), .val (.int i3), .val (.int i4), .val (.int (i0 % (17 : Int32))), .val (.int (i1 &&& (1048575 : Int32))), .val (.int (i2 &&& (1023 : Int32))), .val (.int ((i3 &&& (2147483647 : Int32)) % (5 : Int32))), .val (.int (i4 &&& (7 : Int32))), .val (.int ((1 : Int32) <<< ((i4 &&& (7 : Int32)) &&& 31))), .val (.double (FP.ddiv (FP.i2d ((i3 &&& (2147483647 : Int32)) % (5 : Int32))) (4616189618054758400 : UInt64))), .second, .val (.double (FP.dmul (FP.i2d (i0 % (17 : Int32))) (FP.dsub (FP.ddiv (FP.dadd (FP.i2d (i1 &&& (1048575 : Int32))) (FP.dmul (FP.ddiv (FP.i2d ((i3 &&& (2147483647 : Int32)) % (5 : Int32))) (4616189618054758400 : UInt64)) (FP.i2d (i2 &&& (1023 : Int32))))) (FP.i2d ((1 : Int32) <<< ((i4 &&& (7 : Int32)) &&& 31)))) FP.dconst1))), .second, .val (.long (((i0 % (17 : Int32)).toInt64) * ((((4 : Int64) * ((i1 &&& (1048575 : Int32)).toInt64)) + ((((i3 &&& (2147483647 : Int32)) % (5 : Int32)).toInt64) * ((i2 &&& (1023 : Int32)).toInt64))) - ((4 : Int64) * (((1 : Int32) <<< ((i4 &&& (7 : Int32)) &&& 31)).toInt64))))), .second] [(.int ((1 : Int32) <<< ((i4 &&& (7 : Int32)) &&& 31))), (.double (4616189618054758400 : UInt64)), (.double (FP.dmul (FP.i2d (i0 % (17 : Int32))) (FP.dsub (FP.ddiv (FP.dadd (FP.i2d (i1 &&& (1048575 : Int32))) (FP.dmul (FP.ddiv (FP.i2d ((i3 &&& (2147483647 : Int32)) % (5 : Int32))) (4616189618054758400 : UInt64)) (FP.i2d (i2 &&& (1023 : Int32))))) (FP.i2d ((1 : Int32) <<< ((i4 &&& (7 : Int32)) &&& 31)))) FP.dconst1)))])) _
    refine XS.i2dS X31.here hx rfl (hb hby at_104) rfl rfl ?_
    show Steps p.tables e below (T31.setTop (mkF m 105 #[.val (.int i0), .val (.int i1), .val (.int i2), .val (.int i3), .val (.int i4), .val (.int (i0 % (17 : Int32))), .val (.int (i1 &&& (1048575 : Int32))), .val (.int (i2 &&& (1023 : Int32))), .val (.int ((i3 &&& (2147483647 : Int32)) % (5 : Int32))), .val (.int (i4 &&& (7 : Int32))), .val (.int ((1 : Int32) <<< ((i4 &&& (7 : Int32)) &&& 31))), .val (.double (FP.ddiv (FP.i2d ((i3 &&& (2147483647 : Int32)) % (5 : Int32))) (4616189618054758400 : UInt64))), .second, .val (.double (FP.dmul (FP.i2d (i0 % (17 : Int32))) (FP.dsub (FP.ddiv (FP.dadd (FP.i2d (i1 &&& (1048575 : Int32))) (FP.dmul (FP.ddiv (FP.i2d ((i3 &&& (2147483647 : Int32)) % (5 : Int32))) (4616189618054758400 : UInt64)) (FP.i2d (i2 &&& (1023 : Int32))))) (FP.i2d ((1 : Int32) <<< ((i4 &&& (7 : Int32)) &&& 31)))) FP.dconst1))), .second, .val (.long (((i0 % (17 : Int32)).toInt64) * ((((4 : Int64) * ((i1 &&& (1048575 : Int32)).toInt64)) + ((((i3 &&& (2147483647 : Int32)) % (5 : Int32)).toInt64) * ((i2 &&& (1023 : Int32)).toInt64))) - ((4 : Int64) * (((1 : Int32) <<< ((i4 &&& (7 : Int32)) &&& 31)).toInt64))))), .second] [(.double (FP.i2d ((1 : Int32) <<< ((i4 &&& (7 : Int32)) &&& 31)))), (.double (4616189618054758400 : UInt64)), (.double (FP.dmul (FP.i2d (i0 % (17 : Int32))) (FP.dsub (FP.ddiv (FP.dadd (FP.i2d (i1 &&& (1048575 : Int32))) (FP.dmul (FP.ddiv (FP.i2d ((i3 &&& (2147483647 : Int32)) % (5 : Int32))) (4616189618054758400 : UInt64)) (FP.i2d (i2 &&& (1023 : Int32))))) (FP.i2d ((1 : Int32) <<< ((i4 &&& (7 : Int32)) &&& 31)))) FP.dconst1)))])) _
    refine XS.dmulS X31.here hx rfl (hb hby at_105) rfl hq rfl ?_
    show Steps p.tables e below (T31.setTop (mkF m 106 #[.val (.int i0), .val (.int i1), .val (.int i2), .val (.int i3), .val (.int i4), .val (.int (i0 % (17 : Int32))), .val (.int (i1 &&& (1048575 : Int32))), .val (.int (i2 &&& (1023 : Int32))), .val (.int ((i3 &&& (2147483647 : Int32)) % (5 : Int32))), .val (.int (i4 &&& (7 : Int32))), .val (.int ((1 : Int32) <<< ((i4 &&& (7 : Int32)) &&& 31))), .val (.double (FP.ddiv (FP.i2d ((i3 &&& (2147483647 : Int32)) % (5 : Int32))) (4616189618054758400 : UInt64))), .second, .val (.double (FP.dmul (FP.i2d (i0 % (17 : Int32))) (FP.dsub (FP.ddiv (FP.dadd (FP.i2d (i1 &&& (1048575 : Int32))) (FP.dmul (FP.ddiv (FP.i2d ((i3 &&& (2147483647 : Int32)) % (5 : Int32))) (4616189618054758400 : UInt64)) (FP.i2d (i2 &&& (1023 : Int32))))) (FP.i2d ((1 : Int32) <<< ((i4 &&& (7 : Int32)) &&& 31)))) FP.dconst1))), .second, .val (.long (((i0 % (17 : Int32)).toInt64) * ((((4 : Int64) * ((i1 &&& (1048575 : Int32)).toInt64)) + ((((i3 &&& (2147483647 : Int32)) % (5 : Int32)).toInt64) * ((i2 &&& (1023 : Int32)).toInt64))) - ((4 : Int64) * (((1 : Int32) <<< ((i4 &&& (7 : Int32)) &&& 31)).toInt64))))), .second] [(.double (FP.dmul (4616189618054758400 : UInt64) (FP.i2d ((1 : Int32) <<< ((i4 &&& (7 : Int32)) &&& 31))))), (.double (FP.dmul (FP.i2d (i0 % (17 : Int32))) (FP.dsub (FP.ddiv (FP.dadd (FP.i2d (i1 &&& (1048575 : Int32))) (FP.dmul (FP.ddiv (FP.i2d ((i3 &&& (2147483647 : Int32)) % (5 : Int32))) (4616189618054758400 : UInt64)) (FP.i2d (i2 &&& (1023 : Int32))))) (FP.i2d ((1 : Int32) <<< ((i4 &&& (7 : Int32)) &&& 31)))) FP.dconst1)))])) _
    refine XS.dmulS X31.here hx rfl (hb hby at_106) rfl hl rfl ?_
    show Steps p.tables e below (T31.setTop (mkF m 107 #[.val (.int i0), .val (.int i1), .val (.int i2), .val (.int i3), .val (.int i4), .val (.int (i0 % (17 : Int32))), .val (.int (i1 &&& (1048575 : Int32))), .val (.int (i2 &&& (1023 : Int32))), .val (.int ((i3 &&& (2147483647 : Int32)) % (5 : Int32))), .val (.int (i4 &&& (7 : Int32))), .val (.int ((1 : Int32) <<< ((i4 &&& (7 : Int32)) &&& 31))), .val (.double (FP.ddiv (FP.i2d ((i3 &&& (2147483647 : Int32)) % (5 : Int32))) (4616189618054758400 : UInt64))), .second, .val (.double (FP.dmul (FP.i2d (i0 % (17 : Int32))) (FP.dsub (FP.ddiv (FP.dadd (FP.i2d (i1 &&& (1048575 : Int32))) (FP.dmul (FP.ddiv (FP.i2d ((i3 &&& (2147483647 : Int32)) % (5 : Int32))) (4616189618054758400 : UInt64)) (FP.i2d (i2 &&& (1023 : Int32))))) (FP.i2d ((1 : Int32) <<< ((i4 &&& (7 : Int32)) &&& 31)))) FP.dconst1))), .second, .val (.long (((i0 % (17 : Int32)).toInt64) * ((((4 : Int64) * ((i1 &&& (1048575 : Int32)).toInt64)) + ((((i3 &&& (2147483647 : Int32)) % (5 : Int32)).toInt64) * ((i2 &&& (1023 : Int32)).toInt64))) - ((4 : Int64) * (((1 : Int32) <<< ((i4 &&& (7 : Int32)) &&& 31)).toInt64))))), .second] [(.double (FP.dmul (FP.dmul (FP.i2d (i0 % (17 : Int32))) (FP.dsub (FP.ddiv (FP.dadd (FP.i2d (i1 &&& (1048575 : Int32))) (FP.dmul (FP.ddiv (FP.i2d ((i3 &&& (2147483647 : Int32)) % (5 : Int32))) (4616189618054758400 : UInt64)) (FP.i2d (i2 &&& (1023 : Int32))))) (FP.i2d ((1 : Int32) <<< ((i4 &&& (7 : Int32)) &&& 31)))) FP.dconst1)) (FP.dmul (4616189618054758400 : UInt64) (FP.i2d ((1 : Int32) <<< ((i4 &&& (7 : Int32)) &&& 31))))))])) _
    refine XS.lload X31.here hx rfl (hb hby at_107) rfl ?_
    show Steps p.tables e below (T31.setTop (mkF m 109 #[.val (.int i0), .val (.int i1), .val (.int i2), .val (.int i3), .val (.int i4), .val (.int (i0 % (17 : Int32))), .val (.int (i1 &&& (1048575 : Int32))), .val (.int (i2 &&& (1023 : Int32))), .val (.int ((i3 &&& (2147483647 : Int32)) % (5 : Int32))), .val (.int (i4 &&& (7 : Int32))), .val (.int ((1 : Int32) <<< ((i4 &&& (7 : Int32)) &&& 31))), .val (.double (FP.ddiv (FP.i2d ((i3 &&& (2147483647 : Int32)) % (5 : Int32))) (4616189618054758400 : UInt64))), .second, .val (.double (FP.dmul (FP.i2d (i0 % (17 : Int32))) (FP.dsub (FP.ddiv (FP.dadd (FP.i2d (i1 &&& (1048575 : Int32))) (FP.dmul (FP.ddiv (FP.i2d ((i3 &&& (2147483647 : Int32)) % (5 : Int32))) (4616189618054758400 : UInt64)) (FP.i2d (i2 &&& (1023 : Int32))))) (FP.i2d ((1 : Int32) <<< ((i4 &&& (7 : Int32)) &&& 31)))) FP.dconst1))), .second, .val (.long (((i0 % (17 : Int32)).toInt64) * ((((4 : Int64) * ((i1 &&& (1048575 : Int32)).toInt64)) + ((((i3 &&& (2147483647 : Int32)) % (5 : Int32)).toInt64) * ((i2 &&& (1023 : Int32)).toInt64))) - ((4 : Int64) * (((1 : Int32) <<< ((i4 &&& (7 : Int32)) &&& 31)).toInt64))))), .second] [(.long (((i0 % (17 : Int32)).toInt64) * ((((4 : Int64) * ((i1 &&& (1048575 : Int32)).toInt64)) + ((((i3 &&& (2147483647 : Int32)) % (5 : Int32)).toInt64) * ((i2 &&& (1023 : Int32)).toInt64))) - ((4 : Int64) * (((1 : Int32) <<< ((i4 &&& (7 : Int32)) &&& 31)).toInt64))))), (.double (FP.dmul (FP.dmul (FP.i2d (i0 % (17 : Int32))) (FP.dsub (FP.ddiv (FP.dadd (FP.i2d (i1 &&& (1048575 : Int32))) (FP.dmul (FP.ddiv (FP.i2d ((i3 &&& (2147483647 : Int32)) % (5 : Int32))) (4616189618054758400 : UInt64)) (FP.i2d (i2 &&& (1023 : Int32))))) (FP.i2d ((1 : Int32) <<< ((i4 &&& (7 : Int32)) &&& 31)))) FP.dconst1)) (FP.dmul (4616189618054758400 : UInt64) (FP.i2d ((1 : Int32) <<< ((i4 &&& (7 : Int32)) &&& 31))))))])) _
    refine XS.l2dS X31.here hx rfl (hb hby at_109) rfl rfl ?_
    show Steps p.tables e below (T31.setTop (mkF m 110 #[.val (.int i0), .val (.int i1), .val (.int i2), .val (.int i3), .val (.int i4), .val (.int (i0 % (17 : Int32))), .val (.int (i1 &&& (1048575 : Int32))), .val (.int (i2 &&& (1023 : Int32))), .val (.int ((i3 &&& (2147483647 : Int32)) % (5 : Int32))), .val (.int (i4 &&& (7 : Int32))), .val (.int ((1 : Int32) <<< ((i4 &&& (7 : Int32)) &&& 31))), .val (.double (FP.ddiv (FP.i2d ((i3 &&& (2147483647 : Int32)) % (5 : Int32))) (4616189618054758400 : UInt64))), .second, .val (.double (FP.dmul (FP.i2d (i0 % (17 : Int32))) (FP.dsub (FP.ddiv (FP.dadd (FP.i2d (i1 &&& (1048575 : Int32))) (FP.dmul (FP.ddiv (FP.i2d ((i3 &&& (2147483647 : Int32)) % (5 : Int32))) (4616189618054758400 : UInt64)) (FP.i2d (i2 &&& (1023 : Int32))))) (FP.i2d ((1 : Int32) <<< ((i4 &&& (7 : Int32)) &&& 31)))) FP.dconst1))), .second, .val (.long (((i0 % (17 : Int32)).toInt64) * ((((4 : Int64) * ((i1 &&& (1048575 : Int32)).toInt64)) + ((((i3 &&& (2147483647 : Int32)) % (5 : Int32)).toInt64) * ((i2 &&& (1023 : Int32)).toInt64))) - ((4 : Int64) * (((1 : Int32) <<< ((i4 &&& (7 : Int32)) &&& 31)).toInt64))))), .second] [(.double (FP.l2d (((i0 % (17 : Int32)).toInt64) * ((((4 : Int64) * ((i1 &&& (1048575 : Int32)).toInt64)) + ((((i3 &&& (2147483647 : Int32)) % (5 : Int32)).toInt64) * ((i2 &&& (1023 : Int32)).toInt64))) - ((4 : Int64) * (((1 : Int32) <<< ((i4 &&& (7 : Int32)) &&& 31)).toInt64)))))), (.double (FP.dmul (FP.dmul (FP.i2d (i0 % (17 : Int32))) (FP.dsub (FP.ddiv (FP.dadd (FP.i2d (i1 &&& (1048575 : Int32))) (FP.dmul (FP.ddiv (FP.i2d ((i3 &&& (2147483647 : Int32)) % (5 : Int32))) (4616189618054758400 : UInt64)) (FP.i2d (i2 &&& (1023 : Int32))))) (FP.i2d ((1 : Int32) <<< ((i4 &&& (7 : Int32)) &&& 31)))) FP.dconst1)) (FP.dmul (4616189618054758400 : UInt64) (FP.i2d ((1 : Int32) <<< ((i4 &&& (7 : Int32)) &&& 31))))))])) _
    refine XS.dcmpS X31.here hx rfl (hb hby at_110) rfl hcmp ?_
    show Steps p.tables e below (T31.setTop (mkF m 111 #[.val (.int i0), .val (.int i1), .val (.int i2), .val (.int i3), .val (.int i4), .val (.int (i0 % (17 : Int32))), .val (.int (i1 &&& (1048575 : Int32))), .val (.int (i2 &&& (1023 : Int32))), .val (.int ((i3 &&& (2147483647 : Int32)) % (5 : Int32))), .val (.int (i4 &&& (7 : Int32))), .val (.int ((1 : Int32) <<< ((i4 &&& (7 : Int32)) &&& 31))), .val (.double (FP.ddiv (FP.i2d ((i3 &&& (2147483647 : Int32)) % (5 : Int32))) (4616189618054758400 : UInt64))), .second, .val (.double (FP.dmul (FP.i2d (i0 % (17 : Int32))) (FP.dsub (FP.ddiv (FP.dadd (FP.i2d (i1 &&& (1048575 : Int32))) (FP.dmul (FP.ddiv (FP.i2d ((i3 &&& (2147483647 : Int32)) % (5 : Int32))) (4616189618054758400 : UInt64)) (FP.i2d (i2 &&& (1023 : Int32))))) (FP.i2d ((1 : Int32) <<< ((i4 &&& (7 : Int32)) &&& 31)))) FP.dconst1))), .second, .val (.long (((i0 % (17 : Int32)).toInt64) * ((((4 : Int64) * ((i1 &&& (1048575 : Int32)).toInt64)) + ((((i3 &&& (2147483647 : Int32)) % (5 : Int32)).toInt64) * ((i2 &&& (1023 : Int32)).toInt64))) - ((4 : Int64) * (((1 : Int32) <<< ((i4 &&& (7 : Int32)) &&& 31)).toInt64))))), .second] [(.int 0)])) _
    refine XS.ifNo X31.here hx rfl (hb hby at_111) rfl ((if0 _ _).trans (teq (by decide : (0 : Int32) = (0 : Int32))).2) ?_
    show Steps p.tables e below (T31.setTop (mkF m 114 #[.val (.int i0), .val (.int i1), .val (.int i2), .val (.int i3), .val (.int i4), .val (.int (i0 % (17 : Int32))), .val (.int (i1 &&& (1048575 : Int32))), .val (.int (i2 &&& (1023 : Int32))), .val (.int ((i3 &&& (2147483647 : Int32)) % (5 : Int32))), .val (.int (i4 &&& (7 : Int32))), .val (.int ((1 : Int32) <<< ((i4 &&& (7 : Int32)) &&& 31))), .val (.double (FP.ddiv (FP.i2d ((i3 &&& (2147483647 : Int32)) % (5 : Int32))) (4616189618054758400 : UInt64))), .second, .val (.double (FP.dmul (FP.i2d (i0 % (17 : Int32))) (FP.dsub (FP.ddiv (FP.dadd (FP.i2d (i1 &&& (1048575 : Int32))) (FP.dmul (FP.ddiv (FP.i2d ((i3 &&& (2147483647 : Int32)) % (5 : Int32))) (4616189618054758400 : UInt64)) (FP.i2d (i2 &&& (1023 : Int32))))) (FP.i2d ((1 : Int32) <<< ((i4 &&& (7 : Int32)) &&& 31)))) FP.dconst1))), .second, .val (.long (((i0 % (17 : Int32)).toInt64) * ((((4 : Int64) * ((i1 &&& (1048575 : Int32)).toInt64)) + ((((i3 &&& (2147483647 : Int32)) % (5 : Int32)).toInt64) * ((i2 &&& (1023 : Int32)).toInt64))) - ((4 : Int64) * (((1 : Int32) <<< ((i4 &&& (7 : Int32)) &&& 31)).toInt64))))), .second] [])) _
    refine XS.iconst X31.here hx rfl (hb hby at_114) ?_
    refine XS.goto X31.here hx rfl (pc0 := 115) (pc' := 119) rfl (hb hby at_115) (by decide) (by decide) ?_
    show Steps p.tables e below (T31.setTop (mkF m 119 #[.val (.int i0), .val (.int i1), .val (.int i2), .val (.int i3), .val (.int i4), .val (.int (i0 % (17 : Int32))), .val (.int (i1 &&& (1048575 : Int32))), .val (.int (i2 &&& (1023 : Int32))), .val (.int ((i3 &&& (2147483647 : Int32)) % (5 : Int32))), .val (.int (i4 &&& (7 : Int32))), .val (.int ((1 : Int32) <<< ((i4 &&& (7 : Int32)) &&& 31))), .val (.double (FP.ddiv (FP.i2d ((i3 &&& (2147483647 : Int32)) % (5 : Int32))) (4616189618054758400 : UInt64))), .second, .val (.double (FP.dmul (FP.i2d (i0 % (17 : Int32))) (FP.dsub (FP.ddiv (FP.dadd (FP.i2d (i1 &&& (1048575 : Int32))) (FP.dmul (FP.ddiv (FP.i2d ((i3 &&& (2147483647 : Int32)) % (5 : Int32))) (4616189618054758400 : UInt64)) (FP.i2d (i2 &&& (1023 : Int32))))) (FP.i2d ((1 : Int32) <<< ((i4 &&& (7 : Int32)) &&& 31)))) FP.dconst1))), .second, .val (.long (((i0 % (17 : Int32)).toInt64) * ((((4 : Int64) * ((i1 &&& (1048575 : Int32)).toInt64)) + ((((i3 &&& (2147483647 : Int32)) % (5 : Int32)).toInt64) * ((i2 &&& (1023 : Int32)).toInt64))) - ((4 : Int64) * (((1 : Int32) <<< ((i4 &&& (7 : Int32)) &&& 31)).toInt64))))), .second] [(.int 1)])) _
    exact retN X31 hx (t := .boolean) Bd.returns (by simp) (hb hby at_119) hrL
  · show Q_rm0 _ _ _ _ _ _ _ _ _  T31.heap _
    rw [Kq31]
    exact ⟨rfl, N31, rfl⟩
theorem own_mul_abs {x y : Int} {X Y : Nat} (hx : x.natAbs ≤ X) (hy : y.natAbs ≤ Y) : (x * y).natAbs ≤ X * Y := by rw [Int.natAbs_mul]; exact Nat.mul_le_mul hx hy
theorem own_i64 {x y : Int64} (h1 : -9223372036854775808 ≤ x.toInt * y.toInt) (h2 : x.toInt * y.toInt < 9223372036854775808) : (x * y).toInt = x.toInt * y.toInt := by rw [Int64.toInt_mul]; exact Int.bmod_eq_of_le (by omega) (by omega)
theorem own_a64 {x y : Int64} (h1 : -9223372036854775808 ≤ x.toInt + y.toInt) (h2 : x.toInt + y.toInt < 9223372036854775808) : (x + y).toInt = x.toInt + y.toInt := by rw [Int64.toInt_add]; exact Int.bmod_eq_of_le (by omega) (by omega)
theorem own_s64 {x y : Int64} (h1 : -9223372036854775808 ≤ x.toInt - y.toInt) (h2 : x.toInt - y.toInt < 9223372036854775808) : (x - y).toInt = x.toInt - y.toInt := by rw [Int64.toInt_sub]; exact Int.bmod_eq_of_le (by omega) (by omega)
theorem own_fl2 (l p d a q : Int32) (m : Nat) (hl : -16 ≤ l.toInt ∧ l.toInt ≤ 16) (hp : 0 ≤ p.toInt ∧ p.toInt ≤ 1048575) (hd : 0 ≤ d.toInt ∧ d.toInt ≤ 1023) (ha : 0 ≤ a.toInt ∧ a.toInt ≤ 4) (hm : m ≤ 7) (hq : q.toInt = ((2 ^ m : Nat) : Int)) :
    (Jvm.Free.Fl.NoNaN64 (FP.ddiv (FP.i2d a) (4616189618054758400 : UInt64))) ∧ (Jvm.Free.Fl.NoNaN64 (FP.dmul (FP.ddiv (FP.i2d a) (4616189618054758400 : UInt64)) (FP.i2d d))) ∧ (Jvm.Free.Fl.NoNaN64 (FP.dadd (FP.i2d p) (FP.dmul (FP.ddiv (FP.i2d a) (4616189618054758400 : UInt64)) (FP.i2d d)))) ∧ (Jvm.Free.Fl.NoNaN64 (FP.ddiv (FP.dadd (FP.i2d p) (FP.dmul (FP.ddiv (FP.i2d a) (4616189618054758400 : UInt64)) (FP.i2d d))) (FP.i2d q))) ∧ (Jvm.Free.Fl.NoNaN64 (FP.dsub (FP.ddiv (FP.dadd (FP.i2d p) (FP.dmul (FP.ddiv (FP.i2d a) (4616189618054758400 : UInt64)) (FP.i2d d))) (FP.i2d q)) FP.dconst1)) ∧ (Jvm.Free.Fl.NoNaN64 (FP.dmul (FP.i2d l) (FP.dsub (FP.ddiv (FP.dadd (FP.i2d p) (FP.dmul (FP.ddiv (FP.i2d a) (4616189618054758400 : UInt64)) (FP.i2d d))) (FP.i2d q)) FP.dconst1))) ∧ (Jvm.Free.Fl.NoNaN64 (FP.dmul (4616189618054758400 : UInt64) (FP.i2d q))) ∧ (Jvm.Free.Fl.NoNaN64 (FP.dmul (FP.dmul (FP.i2d l) (FP.dsub (FP.ddiv (FP.dadd (FP.i2d p) (FP.dmul (FP.ddiv (FP.i2d a) (4616189618054758400 : UInt64)) (FP.i2d d))) (FP.i2d q)) FP.dconst1)) (FP.dmul (4616189618054758400 : UInt64) (FP.i2d q)))) ∧ (cmpValue (FP.dcmp (FP.dmul (FP.dmul (FP.i2d l) (FP.dsub (FP.ddiv (FP.dadd (FP.i2d p) (FP.dmul (FP.ddiv (FP.i2d a) (4616189618054758400 : UInt64)) (FP.i2d d))) (FP.i2d q)) FP.dconst1)) (FP.dmul (4616189618054758400 : UInt64) (FP.i2d q))) (FP.l2d ((l.toInt64) * ((((4 : Int64) * (p.toInt64)) + ((a.toInt64) * (d.toInt64))) - ((4 : Int64) * (q.toInt64)))))) .l = (0 : Int32)) := by
  have hpow : 2 ^ m ≤ 128 := by calc 2 ^ m ≤ 2 ^ 7 := Nat.pow_le_pow_right (by decide) hm
                                 _ = 128 := by decide
  have hpow0 : 0 < 2 ^ m := Nat.two_pow_pos m
  have f4 : Jvm.FP.Core.Whole ((2 ^ 2 : Nat) : Int) (Jvm.FP.Core.val64 (4616189618054758400 : UInt64)) := by
    have e : Jvm.FP.Core.val64 (4616189618054758400 : UInt64) = .fin false (2 ^ 52) (-50) := by decide +kernel
    rw [e]; show Jvm.FP.Core.signed _ _ = _; decide
  have one : Jvm.FP.Core.Whole 1 (Jvm.FP.Core.val64 FP.dconst1) := by
    have e : Jvm.FP.Core.val64 FP.dconst1 = .fin false (2 ^ 52) (-52) := by decide +kernel
    rw [e]; show Jvm.FP.Core.signed _ _ = _; decide
  have iL := dy_of_whole (Jvm.FP.Core.i2d_int l)
  have iP := dy_of_whole (Jvm.FP.Core.i2d_int p)
  have iD := dy_of_whole (Jvm.FP.Core.i2d_int d)
  have iA := dy_of_whole (Jvm.FP.Core.i2d_int a)
  have iQ := Jvm.FP.Core.i2d_int q
  unfold Jvm.FP.Core.DInt at iQ
  have iQ0 := dy_of_whole iQ
  rw [hq] at iQ iQ0
  have i4 := dy_of_whole f4
  have i1 := dy_of_whole one
  generalize hLv : l.toInt = L at *
  generalize hPv : p.toInt = P at *
  generalize hDv : d.toInt = D at *
  generalize hAv : a.toInt = A at *
  generalize hMv : 2 ^ m = M at *
  have bAD : 0 ≤ A * D ∧ A * D ≤ 4092 := by
    constructor
    · exact Int.mul_nonneg ha.1 hd.1
    · calc A * D ≤ 4 * D := Int.mul_le_mul_of_nonneg_right ha.2 hd.1
        _ ≤ 4092 := by omega
  have dF := dy_quo (k := 0) (m := 2) (by omega) (by omega) iA f4
  have dM := dy_mul (by omega) (by generalize A * D = AD at bAD ⊢; omega) dF iD
  have dP2 := dy_up 2 iP
  have dM' : Dy 2 (A * D) (Jvm.FP.Core.val64 (FP.dmul (FP.ddiv (FP.i2d a) (4616189618054758400 : UInt64)) (FP.i2d d))) := dM
  have dP2' : Dy 2 (P * ((2 ^ 2 : Nat) : Int)) (Jvm.FP.Core.val64 (FP.i2d p)) := by have := dP2; rw [Nat.zero_add] at this; exact this
  have dS := dy_add (by omega) (by generalize A * D = AD at bAD ⊢; omega) dP2' dM'
  have dV := dy_quo (k := 2) (m := m) (by omega) (by generalize A * D = AD at bAD ⊢; omega) dS (by rw [hMv]; exact iQ)
  have d1 := dy_up (2 + m) i1
  have e1 : (1 : Int) * ((2 ^ (2 + m) : Nat) : Int) = 4 * (M : Int) := by rw [Nat.pow_add, hMv]; omega
  rw [e1, Nat.zero_add] at d1
  have dB := dy_sub (by omega) (by generalize A * D = AD at bAD ⊢; omega) dV d1
  generalize hN : P * ((2 ^ 2 : Nat) : Int) + A * D - 4 * (M : Int) = N at dB
  have bN : -512 ≤ N ∧ N ≤ 4198392 := by generalize A * D = AD at bAD hN; omega
  have bLN : (L * N).natAbs ≤ 16 * 4198392 := own_mul_abs (by omega) (by omega)
  have dR := dy_mul (by omega) (by omega) iL dB
  have dQ4 := dy_mul (by omega) (by omega) i4 iQ0
  have dX := dy_mul (by omega) (by rw [Int.natAbs_mul]; exact Nat.lt_of_le_of_lt (Nat.mul_le_mul bLN (show (((2 ^ 2 : Nat) : Int) * (M : Int)).natAbs ≤ 512 by rw [show ((2 ^ 2 : Nat) : Int) = 4 from rfl]; omega)) (by decide)) dR dQ4
  have eN : (((l.toInt64) * ((((4 : Int64) * (p.toInt64)) + ((a.toInt64) * (d.toInt64))) - ((4 : Int64) * (q.toInt64))))).toInt = L * N := by
    have t4 : (4 : Int64).toInt = 4 := by decide
    have tp : p.toInt64.toInt = P := by rw [c_i2l]; exact hPv
    have td : d.toInt64.toInt = D := by rw [c_i2l]; exact hDv
    have ta : a.toInt64.toInt = A := by rw [c_i2l]; exact hAv
    have tl : l.toInt64.toInt = L := by rw [c_i2l]; exact hLv
    have tq : q.toInt64.toInt = (M : Int) := by rw [c_i2l]; exact hq
    have m1 : ((4 : Int64) * p.toInt64).toInt = 4 * P := by rw [own_i64] <;> rw [t4, tp] <;> omega
    have m2 : (a.toInt64 * d.toInt64).toInt = A * D := by rw [own_i64] <;> rw [ta, td] <;> (try generalize A * D = AD at bAD ⊢) <;> omega
    have m3 : ((4 : Int64) * q.toInt64).toInt = 4 * (M : Int) := by rw [own_i64] <;> rw [t4, tq] <;> omega
    have m4 : ((4 : Int64) * p.toInt64 + a.toInt64 * d.toInt64).toInt = 4 * P + A * D := by rw [own_a64] <;> rw [m1, m2] <;> (try generalize A * D = AD at bAD ⊢) <;> omega
    have m5 : ((4 : Int64) * p.toInt64 + a.toInt64 * d.toInt64 - (4 : Int64) * q.toInt64).toInt = N := by rw [own_s64] <;> rw [m4, m3] <;> generalize A * D = AD at bAD hN ⊢ <;> omega
    rw [own_i64] <;> rw [tl, m5] <;> generalize L * N = LN at bLN ⊢ <;> omega
  have iN := Jvm.FP.Core.l2d_int (a := ((l.toInt64) * ((((4 : Int64) * (p.toInt64)) + ((a.toInt64) * (d.toInt64))) - ((4 : Int64) * (q.toInt64))))) (by rw [eN]; omega)
  unfold Jvm.FP.Core.DInt at iN
  rw [eN] at iN
  have dN := dy_up (0 + (2 + m) + (0 + 0)) (dy_of_whole iN)
  have e2 : L * N * (((2 ^ 2 : Nat) : Int) * (M : Int)) = L * N * ((2 ^ (0 + (2 + m) + (0 + 0)) : Nat) : Int) := by
    congr 1
    rw [show 0 + (2 + m) + (0 + 0) = 2 + m by omega, Nat.pow_add, hMv]; omega
  have dX' := dX
  rw [e2] at dX'
  rw [Nat.zero_add] at dN
  refine ⟨dy_nn dF, dy_nn dM, dy_nn dS, dy_nn dV, dy_nn dB, dy_nn dR, dy_nn dQ4, dy_nn dX, ?_⟩
  rw [dy_cmp dX' dN]; rfl
theorem own_fl (i0 i1 i2 i3 i4 : Int32) : (Jvm.Free.Fl.NoNaN64 (FP.ddiv (FP.i2d ((i3 &&& (2147483647 : Int32)) % (5 : Int32))) (4616189618054758400 : UInt64))) ∧ (Jvm.Free.Fl.NoNaN64 (FP.dmul (FP.ddiv (FP.i2d ((i3 &&& (2147483647 : Int32)) % (5 : Int32))) (4616189618054758400 : UInt64)) (FP.i2d (i2 &&& (1023 : Int32))))) ∧ (Jvm.Free.Fl.NoNaN64 (FP.dadd (FP.i2d (i1 &&& (1048575 : Int32))) (FP.dmul (FP.ddiv (FP.i2d ((i3 &&& (2147483647 : Int32)) % (5 : Int32))) (4616189618054758400 : UInt64)) (FP.i2d (i2 &&& (1023 : Int32)))))) ∧ (Jvm.Free.Fl.NoNaN64 (FP.ddiv (FP.dadd (FP.i2d (i1 &&& (1048575 : Int32))) (FP.dmul (FP.ddiv (FP.i2d ((i3 &&& (2147483647 : Int32)) % (5 : Int32))) (4616189618054758400 : UInt64)) (FP.i2d (i2 &&& (1023 : Int32))))) (FP.i2d ((1 : Int32) <<< ((i4 &&& (7 : Int32)) &&& 31))))) ∧ (Jvm.Free.Fl.NoNaN64 (FP.dsub (FP.ddiv (FP.dadd (FP.i2d (i1 &&& (1048575 : Int32))) (FP.dmul (FP.ddiv (FP.i2d ((i3 &&& (2147483647 : Int32)) % (5 : Int32))) (4616189618054758400 : UInt64)) (FP.i2d (i2 &&& (1023 : Int32))))) (FP.i2d ((1 : Int32) <<< ((i4 &&& (7 : Int32)) &&& 31)))) FP.dconst1)) ∧ (Jvm.Free.Fl.NoNaN64 (FP.dmul (FP.i2d (i0 % (17 : Int32))) (FP.dsub (FP.ddiv (FP.dadd (FP.i2d (i1 &&& (1048575 : Int32))) (FP.dmul (FP.ddiv (FP.i2d ((i3 &&& (2147483647 : Int32)) % (5 : Int32))) (4616189618054758400 : UInt64)) (FP.i2d (i2 &&& (1023 : Int32))))) (FP.i2d ((1 : Int32) <<< ((i4 &&& (7 : Int32)) &&& 31)))) FP.dconst1))) ∧ (Jvm.Free.Fl.NoNaN64 (FP.dmul (4616189618054758400 : UInt64) (FP.i2d ((1 : Int32) <<< ((i4 &&& (7 : Int32)) &&& 31))))) ∧ (Jvm.Free.Fl.NoNaN64 (FP.dmul (FP.dmul (FP.i2d (i0 % (17 : Int32))) (FP.dsub (FP.ddiv (FP.dadd (FP.i2d (i1 &&& (1048575 : Int32))) (FP.dmul (FP.ddiv (FP.i2d ((i3 &&& (2147483647 : Int32)) % (5 : Int32))) (4616189618054758400 : UInt64)) (FP.i2d (i2 &&& (1023 : Int32))))) (FP.i2d ((1 : Int32) <<< ((i4 &&& (7 : Int32)) &&& 31)))) FP.dconst1)) (FP.dmul (4616189618054758400 : UInt64) (FP.i2d ((1 : Int32) <<< ((i4 &&& (7 : Int32)) &&& 31)))))) ∧ (cmpValue (FP.dcmp (FP.dmul (FP.dmul (FP.i2d (i0 % (17 : Int32))) (FP.dsub (FP.ddiv (FP.dadd (FP.i2d (i1 &&& (1048575 : Int32))) (FP.dmul (FP.ddiv (FP.i2d ((i3 &&& (2147483647 : Int32)) % (5 : Int32))) (4616189618054758400 : UInt64)) (FP.i2d (i2 &&& (1023 : Int32))))) (FP.i2d ((1 : Int32) <<< ((i4 &&& (7 : Int32)) &&& 31)))) FP.dconst1)) (FP.dmul (4616189618054758400 : UInt64) (FP.i2d ((1 : Int32) <<< ((i4 &&& (7 : Int32)) &&& 31))))) (FP.l2d (((i0 % (17 : Int32)).toInt64) * ((((4 : Int64) * ((i1 &&& (1048575 : Int32)).toInt64)) + ((((i3 &&& (2147483647 : Int32)) % (5 : Int32)).toInt64) * ((i2 &&& (1023 : Int32)).toInt64))) - ((4 : Int64) * (((1 : Int32) <<< ((i4 &&& (7 : Int32)) &&& 31)).toInt64)))))) .l = (0 : Int32)) := by
  have hl : -16 ≤ ((i0 % (17 : Int32))).toInt ∧ ((i0 % (17 : Int32))).toInt ≤ 16 := by
    have h := c_irem i0 17 17 (by decide)
    by_cases z : 0 ≤ i0.toInt
    · have := h.1 z; omega
    · have := h.2 (by omega); omega
  have hp : 0 ≤ ((i1 &&& (1048575 : Int32))).toInt ∧ ((i1 &&& (1048575 : Int32))).toInt ≤ 1048575 := by have := c_and i1 1048575 (by decide); rw [show (1048575 : Int32).toInt = 1048575 from by decide] at this; exact this
  have hd : 0 ≤ ((i2 &&& (1023 : Int32))).toInt ∧ ((i2 &&& (1023 : Int32))).toInt ≤ 1023 := by have := c_and i2 1023 (by decide); rw [show (1023 : Int32).toInt = 1023 from by decide] at this; exact this
  have ha : 0 ≤ (((i3 &&& (2147483647 : Int32)) % (5 : Int32))).toInt ∧ (((i3 &&& (2147483647 : Int32)) % (5 : Int32))).toInt ≤ 4 := by
    have h0 := c_and i3 2147483647 (by decide)
    have h := (c_irem (i3 &&& 2147483647) 5 5 (by decide)).1 h0.1
    omega
  have hq : ∃ m : Nat, m ≤ 7 ∧ (((1 : Int32) <<< ((i4 &&& (7 : Int32)) &&& 31))).toInt = ((2 ^ m : Nat) : Int) := by
    have hk := c_and i4 7 (by decide)
    have e7 : (7 : Int32).toInt = 7 := by decide
    rw [e7] at hk
    generalize i4 &&& 7 = k at hk ⊢
    have hk' : k = 0 ∨ k = 1 ∨ k = 2 ∨ k = 3 ∨ k = 4 ∨ k = 5 ∨ k = 6 ∨ k = 7 := by
      rcases (by omega : k.toInt = 0 ∨ k.toInt = 1 ∨ k.toInt = 2 ∨ k.toInt = 3 ∨ k.toInt = 4 ∨ k.toInt = 5 ∨ k.toInt = 6 ∨ k.toInt = 7) with h | h | h | h | h | h | h | h
      · exact Or.inl (Int32.toInt_inj.mp h)
      · exact Or.inr (Or.inl (Int32.toInt_inj.mp h))
      · exact Or.inr (Or.inr (Or.inl (Int32.toInt_inj.mp h)))
      · exact Or.inr (Or.inr (Or.inr (Or.inl (Int32.toInt_inj.mp h))))
      · exact Or.inr (Or.inr (Or.inr (Or.inr (Or.inl (Int32.toInt_inj.mp h)))))
      · exact Or.inr (Or.inr (Or.inr (Or.inr (Or.inr (Or.inl (Int32.toInt_inj.mp h))))))
      · exact Or.inr (Or.inr (Or.inr (Or.inr (Or.inr (Or.inr (Or.inl (Int32.toInt_inj.mp h)))))))
      · exact Or.inr (Or.inr (Or.inr (Or.inr (Or.inr (Or.inr (Or.inr (Int32.toInt_inj.mp h)))))))
    rcases hk' with rfl | rfl | rfl | rfl | rfl | rfl | rfl | rfl
    · exact ⟨0, by decide, by decide⟩
    · exact ⟨1, by decide, by decide⟩
    · exact ⟨2, by decide, by decide⟩
    · exact ⟨3, by decide, by decide⟩
    · exact ⟨4, by decide, by decide⟩
    · exact ⟨5, by decide, by decide⟩
    · exact ⟨6, by decide, by decide⟩
    · exact ⟨7, by decide, by decide⟩
  generalize (i0 % (17 : Int32)) = l at hl ⊢
  generalize (i1 &&& (1048575 : Int32)) = p at hp ⊢
  generalize (i2 &&& (1023 : Int32)) = d at hd ⊢
  generalize ((i3 &&& (2147483647 : Int32)) % (5 : Int32)) = a at ha ⊢
  generalize ((1 : Int32) <<< ((i4 &&& (7 : Int32)) &&& 31)) = q at hq ⊢
  obtain ⟨m, hm, hq⟩ := hq
  exact own_fl2 l p d a q m hl hp hd ha hm hq
set_option maxRecDepth 65536 in
set_option maxHeartbeats 40000000 in
theorem comes_1 {Post : Tables → Env → Array Value → State → Outcome → State → Prop} (hpost : ∀ tb e args s v u, (limb_1_1.after args s (.returned v) u = true ∧ limb_1_2.after args s (.returned v) u = true ∧ True) → FrameEnd s (.returned v) u (Jvm.fieldLocs frame_1_writes args s ++ Jvm.arrayLocs frame_1_arrays args s ++ Jvm.staticLocs frame_1_statics s) 0 0 → Post tb e args s (.returned v) u) :
    ArmFor flags0 classFile x code maxLocals ret World_1 tables_1 room_1 Calls_1 rest_1 Pre_1 Post := by
  intro l hfl _ _ p e ha hc hk s m args below hf hA hF happ hP
  obtain ⟨hcalls, hrest, hpre⟩ := hP
  obtain ⟨-, -, -, hnamed, -, -, -, hat⟩ := (Spec.applies_iff hf).mp happ
  obtain ⟨hg, hn⟩ := and_e (Cond.before_iff.mp (show (Jvm.Cond.and given_1 narrow_1).before args s = true from hpre))
  obtain ⟨g1, g2⟩ := and_e hg
  obtain ⟨g3, g4⟩ := and_e g2
  obtain ⟨g5, g6⟩ := and_e g4
  obtain ⟨g7, g8⟩ := and_e g6
  obtain ⟨g9, g10⟩ := and_e g8
  obtain ⟨w0, w1, w2, w3, w4, rfl⟩ : ∃ w0 w1 w2 w3 w4 : Value, args = #[w0, w1, w2, w3, w4] := by
    have hs : args.size = 5 := by simpa [Cond.value, given_1] using g1
    obtain ⟨L⟩ := args
    match L, hs with
    | [w0, w1, w2, w3, w4], _ => exact ⟨w0, w1, w2, w3, w4, rfl⟩
  have hw := fun d (hd : d ∈ tables_1) => atoms_spec (ws := Jvm.Cond.code x code maxLocals ret :: tables_1) hat d (List.mem_cons_of_mem _ hd)
  have hfit : Fit s := fun {y c} hc i hi => by
    obtain ⟨ha, rfl⟩ := Array.getElem?_eq_some_iff.mp hc
    have q := List.all_eq_true.mp ((Array.all_eq_true_iff_forall_mem.mp hF) _ (Array.getElem_mem ha)) i (List.mem_range.mpr hi)
    simpa [Array.getElem?_eq_getElem hi] using q
  obtain ⟨i0, ei0⟩ := is_v g3
  obtain rfl : w0 = (.int i0) := Option.some.inj ei0
  obtain ⟨i1, ei1⟩ := is_v g5
  obtain rfl : w1 = (.int i1) := Option.some.inj ei1
  obtain ⟨i2, ei2⟩ := is_v g7
  obtain rfl : w2 = (.int i2) := Option.some.inj ei2
  obtain ⟨i3, ei3⟩ := is_v g9
  obtain rfl : w3 = (.int i3) := Option.some.inj ei3
  obtain ⟨i4, ei4⟩ := is_v g10
  obtain rfl : w4 = (.int i4) := Option.some.inj ei4
  obtain ⟨h_0, h_1, h_2, h_3, h_4, h_5, h_6, h_7, h_8⟩ := own_fl i0 i1 i2 i3 i4
  obtain ⟨n, o, h1, h2, h3, _, L, rfl, ⟨rfl, N, -⟩, hq⟩ := rm0 l s _ hw tables_1 i0 i1 i2 i3 i4 s.heap s.heap.size (Nat.le_refl _) h_0 h_1 h_2 h_3 h_4 h_5 h_6 h_7 h_8 p e ha hc hk s m _ below hf ((Spec.applies_iff_loose hf).mp happ).1 ⟨rfl, State.Warmed39.refl s, rfl⟩ trivial
  refine ⟨n, _, h1, h2, h3, hpost _ _ _ _ _ _ ⟨Cond.after_iff.mpr rfl, Cond.after_iff.mpr (eq_i res_at (Term.int_eval (1)) rfl), trivial⟩ ⟨hq.1, hq.2.1, (hq.2.2.sift fun y hy => Or.inr (N y hy)).mono (by decide) (by decide)⟩⟩
theorem main_1_1 : Claimed_1_1 := comes_1 fun _ _ _ _ _ _ h hF => ⟨h.1, hF⟩
theorem main_1_2 : Claimed_1_2 := comes_1 fun _ _ _ _ _ _ h hF => ⟨h.2.1, hF⟩
end Jvm.Pilot.@@N@@
namespace Jvm.Pilot.@@N@@
open Jvm Jvm.ClassFile Sem Op Lib Jvm.Free Jvm.Stand Jvm.Pilot.@@N@@.Jvm.D
/-! MADE BY PROGRAM (witnessworld.py) out of the Statement's table words and the real class files: 9 classes; the members and pool entries that the words name. The judged class is class 1, her method 1. -/
namespace start1
open Jvm.ClassFile
def u (s : String) : CpInfo := .utf8 (stringToUtf16 s)
/-- a pool by its gaps: so many unusable entries, then the entry; so many at the end -/
def gap : Nat → List CpInfo → List CpInfo
  | 0, r => r
  | n + 1, r => .unusable :: gap n r
def poolList (es : List (Nat × CpInfo)) (last : Nat) : List CpInfo := es.foldr (fun e r => gap e.1 (e.2 :: r)) (gap last [])
def pool (es : List (Nat × CpInfo)) (last : Nat) : Array CpInfo := ⟨poolList es last⟩
def fileOf (pool : Array CpInfo) (this : Nat) (attrs : Array Attribute := #[]) (ms : Array MethodInfo := #[]) (fl : Nat := 33) (sup : Nat := 0) (ifs : Array Nat := #[]) (fds : Array FieldInfo := #[]) : ClassFile where
  minorVersion := 0
  majorVersion := 65
  constantPool := pool
  accessFlags := fl
  thisClass := this
  superClass := sup
  interfaces := ifs
  fields := fds
  methods := ms
  attributes := attrs
def plain (name : String) (sup : Option ClassId) : Class where
  name := name
  kind := .ordinary
  loader := none
  accessFlags := 33
  super := sup
  interfaces := #[]
  cf := none
  fields := #[]
  methods := #[]
  instanceTypes := #[]
  staticTypes := #[]
  resolved := #[]
  callSites := []
  init := .initialized
  statics := none
  mirror := none

def pool0 : Array CpInfo := pool [(5, u "<init>"), (0, u "()V"), (1, .class_ 10), (1, u "java/lang/Object")] 113

def k0m0 : Method := { name := "<init>", desc := "()V", sig := { parameters := [], returnType := none }, accessFlags := 1, code := none }
/-- java/lang/Object -/
def k0 : Class := { plain "java/lang/Object" none with
  accessFlags := 33
  interfaces := #[]
  cf := some (fileOf pool0 8 #[] #[{ accessFlags := 1, nameIndex := 5, descriptorIndex := 6, attributes := #[] }] 33 0 #[] #[])
  fields := #[]
  methods := #[k0m0]
  instanceTypes := #[]
  staticTypes := #[]
  resolved := Array.replicate 124 none
  statics := none }

def pool1 : Array CpInfo := pool [(2, .class_ 4), (1, u "java/lang/Object"), (0, u "<init>"), (0, u "()V"), (0, .integer 1048575), (0, .integer 2147483647), (0, .double 4616189618054758400), (1, .methodref 12 13), (0, .class_ 14), (0, .nameAndType 15 16), (0, u "com/example/gearline/gearline/factor/FactorFormula"), (0, u "leverageTerm"), (0, u "(DDDDD)D"), (0, .long 4), (1, .class_ 20), (0, u "com/example/gearline/gearline/factor/FactorFormulaLeverageTermPinLaw"), (2, u "law"), (0, u "(IIIII)Z")] 3

def k1m0 : Method := { name := "<init>", desc := "()V", sig := { parameters := [], returnType := none }, accessFlags := 2, code := none }
def k1c1 : Code := { maxStack := 10, maxLocals := 17, code := code, exceptionTable := #[], attributes := #[] }
def k1m1 : Method := { name := "law", desc := "(IIIII)Z", sig := { parameters := [.int, .int, .int, .int, .int], returnType := some .boolean }, accessFlags := 9, code := some k1c1 }
/-- com/example/gearline/gearline/factor/FactorFormulaLeverageTermPinLaw -/
def k1 : Class := { plain "com/example/gearline/gearline/factor/FactorFormulaLeverageTermPinLaw" (some 0) with
  accessFlags := 49
  interfaces := #[]
  cf := some (fileOf pool1 19 #[] #[{ accessFlags := 2, nameIndex := 5, descriptorIndex := 6, attributes := #[] }, { accessFlags := 9, nameIndex := 23, descriptorIndex := 24, attributes := #[] }] 49 2 #[] #[])
  fields := #[]
  methods := #[k1m0, k1m1]
  instanceTypes := #[]
  staticTypes := #[]
  resolved := Array.replicate 28 none
  statics := none }

def pool2 : Array CpInfo := pool [(2, .class_ 4), (1, u "java/lang/Object"), (0, u "<init>"), (0, u "()V"), (8, .class_ 16), (0, u "com/example/gearline/gearline/factor/FactorFormula"), (2, u "leverageTerm"), (0, u "(DDDDD)D")] 6

def k2m0 : Method := { name := "<init>", desc := "()V", sig := { parameters := [], returnType := none }, accessFlags := 2, code := none }
def k2c1 : Code := { maxStack := 8, maxLocals := 10, code := prog_14_method_2_code, exceptionTable := #[], attributes := #[] }
def k2m1 : Method := { name := "leverageTerm", desc := "(DDDDD)D", sig := { parameters := [.double, .double, .double, .double, .double], returnType := some .double }, accessFlags := 9, code := some k2c1 }
/-- com/example/gearline/gearline/factor/FactorFormula -/
def k2 : Class := { plain "com/example/gearline/gearline/factor/FactorFormula" (some 0) with
  accessFlags := 33
  interfaces := #[]
  cf := some (fileOf pool2 15 #[] #[{ accessFlags := 2, nameIndex := 5, descriptorIndex := 6, attributes := #[] }, { accessFlags := 9, nameIndex := 19, descriptorIndex := 20, attributes := #[] }] 33 2 #[] #[])
  fields := #[]
  methods := #[k2m0, k2m1]
  instanceTypes := #[]
  staticTypes := #[]
  resolved := Array.replicate 27 none
  statics := none }

def pool3 : Array CpInfo := pool [(1, u "java/lang/Cloneable"), (0, .class_ 1), (0, u "java/lang/Object"), (0, .class_ 3)] 3

/-- java/lang/Cloneable -/
def k3 : Class := { plain "java/lang/Cloneable" (some 0) with
  accessFlags := 1537
  interfaces := #[]
  cf := some (fileOf pool3 2 #[] #[] 1537 4 #[] #[])
  fields := #[]
  methods := #[]
  instanceTypes := #[]
  staticTypes := #[]
  resolved := Array.replicate 8 none
  statics := none }

def pool4 : Array CpInfo := pool [(1, u "java/io/Serializable"), (0, .class_ 1), (0, u "java/lang/Object"), (0, .class_ 3)] 3

/-- java/io/Serializable -/
def k4 : Class := { plain "java/io/Serializable" (some 0) with
  accessFlags := 1537
  interfaces := #[]
  cf := some (fileOf pool4 2 #[] #[] 1537 4 #[] #[])
  fields := #[]
  methods := #[]
  instanceTypes := #[]
  staticTypes := #[]
  resolved := Array.replicate 8 none
  statics := none }

/-- the primitive byte -/
def k5 : Class := { plain "byte" none with kind := .primitive 'B', accessFlags := 0x411 }
/-- [B -/
def k6 : Class := { plain "[B" (some 0) with kind := .array 5 .byte, interfaces := #[3, 4], accessFlags := 1041 }

/-- the primitive int -/
def k7 : Class := { plain "int" none with kind := .primitive 'I', accessFlags := 0x411 }
/-- [I -/
def k8 : Class := { plain "[I" (some 0) with kind := .array 7 .int, interfaces := #[3, 4], accessFlags := 1041 }

def heap : Heap := #[]
def classes : Array Class := #[k0, k1, k2, k3, k4, k5, k6, k7, k8]
def interned : List (Array UInt16 × Addr) := []
def slotsUsed : Nat := 0
def theMethod : MethodId := ⟨1, 1⟩
def args0 : Array Value := #[.int 1, .int 2, .int 3, .int 4, .int 5]
def aboutOver (below : List Frame) : State where
  vm := { classes := classes, interned := interned.toArray }
  heap := heap
  slotsUsed := slotsUsed
  threads := #[{ frames := .invoking theMethod args0 :: below }]
def below0 : List Frame := [.native { method := ⟨0, 0⟩, args := #[] }]
def about1 : State := aboutOver below0
def p0 : Program := .bare "" "" ""
def e0 : Env := launch0.env 0 0 0
theorem w_frames : about1.frames = Frame.invoking theMethod args0 :: below0 := rfl
set_option maxRecDepth 65536 in
theorem w_args : argsFit about1.vm theMethod args0 = true := by decide +kernel
set_option maxRecDepth 65536 in
theorem w_heap : heapFits about1 = true := by decide +kernel
set_option maxRecDepth 65536 in
theorem w_runnable : about1.curStatus? = some .runnable := by decide +kernel
set_option maxRecDepth 65536 in
theorem w_alone : about1.alone = true := by decide +kernel
set_option maxRecDepth 65536 in
theorem w_named : about1.methodNamed? x = some theMethod := by decide +kernel
set_option maxRecDepth 65536 in
theorem w_hears : about1.hears theMethod below0 = true := by decide +kernel
set_option maxRecDepth 65536 in
theorem w_ripe : about1.ripe theMethod args0 below0 = true := by decide +kernel
theorem w_running : about1.status = .running := rfl
set_option maxRecDepth 65536 in
theorem w_room : about1.hasRoom e0.platform room_1 = true :=
  launch0.hasRoom_least _ room_1 (by decide +kernel) (by decide +kernel) (by decide +kernel) (by decide +kernel) (by decide +kernel) (by decide +kernel)
theorem allAtoms_all (ts : List Jvm.Cond) (a : Array Jvm.Value) (st : Jvm.State) : (allAtoms ts).before a st = ts.all (fun c => c.before a st) := by
  induction ts with
  | nil => rfl
  | cons c t ih =>
    show (Jvm.Cond.and c (allAtoms t)).before a st = _
    rw [Jvm.Cond.before_and, ih, List.all_cons]
def words1 : List Jvm.Cond := Jvm.Cond.code x code maxLocals ret :: tables_1
/-- a 'code' word, met by the world's own term for the bytes: nothing is compared byte by byte -/
theorem code_word {y : MethodName} {bytes : ByteArray} {mx : Nat} {rt : Option FieldType} {a : Array Value} {s : State} {m : MethodId} {meth : Method} {c : Code} (h1 : s.methodNamed? y = some m) (h2 : s.vm.method? m = some meth) (h3 : meth.code = some c) (h4 : c.code = bytes)
    (h5 : (c.maxLocals == mx && c.exceptionTable.isEmpty && decide (c.maxStack ≤ mostOperands) && decide (meth.sig.returnType = rt) && !meth.locks && decide (parseMethodDescriptor y.desc = some meth.sig)) = true) : (Jvm.Cond.code y bytes mx rt).before a s = true := by
  simp only [Bool.and_eq_true, beq_iff_eq, Bool.not_eq_true', decide_eq_true_eq] at h5
  obtain ⟨⟨⟨⟨⟨g1, g2⟩, g3⟩, g4⟩, g5⟩, g6⟩ := h5
  simp [Cond.before, Cond.holds, Cond.value, h1, h2, h3, h4, g1, g2, g3, g4, g5, g6]
def isCode : Jvm.Cond → Bool
  | .code _ _ _ _ => true
  | _ => false
theorem all_split {L : List Jvm.Cond} {P : Jvm.Cond → Bool} (h1 : L.all (fun c => isCode c || P c) = true) (h2 : ∀ c ∈ L.filter isCode, P c = true) : L.all P = true := by
  refine List.all_eq_true.mpr fun c hc => ?_
  have h := List.all_eq_true.mp h1 c hc
  rcases Bool.eq_false_or_eq_true (isCode c) with hi | hi
  · exact h2 c (List.mem_filter.mpr ⟨hc, hi⟩)
  · simpa [hi] using h
set_option maxRecDepth 65536 in
theorem w_c0 : (Jvm.Cond.code x code maxLocals ret).before args0 about1 = true := code_word (m := ⟨1, 1⟩) (meth := k1m1) (c := k1c1) (by decide +kernel) rfl rfl rfl (by decide +kernel)
set_option maxRecDepth 65536 in
theorem w_c1 : (Jvm.Cond.code ({ cls := "com/example/gearline/gearline/factor/FactorFormula", name := "leverageTerm", desc := "(DDDDD)D" } : Jvm.MethodName) prog_14_method_2_code (10 : Nat) (Option.some Jvm.ClassFile.FieldType.double)).before args0 about1 = true := code_word (m := ⟨2, 1⟩) (meth := k2m1) (c := k2c1) (by decide +kernel) rfl rfl rfl (by decide +kernel)
def codes1 : List Jvm.Cond := [Jvm.Cond.code x code maxLocals ret, Jvm.Cond.code ({ cls := "com/example/gearline/gearline/factor/FactorFormula", name := "leverageTerm", desc := "(DDDDD)D" } : Jvm.MethodName) prog_14_method_2_code (10 : Nat) (Option.some Jvm.ClassFile.FieldType.double)]
set_option maxRecDepth 65536 in
theorem codes_eq : words1.filter isCode = codes1 := rfl
theorem w_codes : ∀ c ∈ words1.filter isCode, c.before args0 about1 = true := by
  rw [codes_eq]
  intro c hc
  simp only [codes1, List.mem_cons, List.not_mem_nil, or_false] at hc
  rcases hc with rfl | rfl
  · exact w_c0
  · exact w_c1
set_option maxRecDepth 65536 in
theorem w_t1 : words1.all (fun c => isCode c || c.before args0 about1) = true := by decide +kernel
theorem w_tables : (allAtoms (Jvm.Cond.code x code maxLocals ret :: tables_1)).before args0 about1 = true := by
  rw [allAtoms_all]
  show words1.all (fun c => c.before args0 about1) = true
  refine all_split ?_ w_codes
  rw [w_t1]
set_option maxRecDepth 65536 in
theorem w_case : (Jvm.Cond.and given_1 narrow_1).before args0 about1 = true := by decide +kernel
theorem w_applies : (headSpec (Jvm.Cond.code x code maxLocals ret :: tables_1) room_1).applies x e0.platform about1 = true :=
  (Spec.applies_iff w_frames).mpr ⟨w_running, w_runnable, w_alone, w_named, w_hears, w_ripe, w_room, w_tables⟩
theorem atStart : AtStart classFile x code maxLocals ret World_1 tables_1 room_1 Calls_1 rest_1 Pre_1 launch0 p0 e0 about1 theMethod args0 below0 :=
  ⟨lists_1, trivial, launch0.admits_env _ _ _, launch0.least_env, fairChoices_fair.cas, fairChoices_fair.clock, w_frames, w_args, w_heap, w_applies, trivial, trivial, w_case⟩
end start1
theorem witness_1 : WitnessClaimed_1 := ⟨start1.p0, start1.e0, start1.about1, start1.theMethod, start1.args0, start1.below0, start1.atStart⟩
end Jvm.Pilot.@@N@@
