import JvmDerived
import JvmDerived.Pilot.@@N@@Statement
import JvmDerived.Pilot.@@N@@Code
set_option linter.unusedVariables false
set_option linter.unusedSimpArgs false
namespace Jvm.RoadKit
open Sem ClassFile Op Lib Jvm.Stand Jvm.Free Jvm.LawKit
section New
variable {p : Program} {l : Launch} {e : Env} {R : Room} {s : State} {m : MethodId} {args : Array Value} {below : List Frame} {meth : Method} {c : Code} {T : State} {locs : List Loc} {cells slots : Nat}
theorem retI (X : Stand p l e R s m args below meth c T locs cells slots) (hx : p.tables.exec = Jvm.exec) {pc : Nat} {Ls : Array Slot} {z : Int32} {rest : List Value} (hret : meth.sig.returnType = some .int) (hd : decode c.code pc = .ok (.ireturn, 1)) {fs : List Frame}
    (hl : ∀ (f : JFrame) (acts : List Action), f.method = m → f.locked = none → f.entered = [] → (doReturn e (T.setTop f) acts (some (.int z))).1 = T.setFrames fs) : Steps p.tables e below (T.setTop (mkF m pc Ls (.int z :: rest))) (T.setFrames fs) := by
  have hm' : T.vm.method? m = some meth := X.method'
  have hn : narrow .int (.int z) = .int z := rfl
  show Steps p.tables e below (T.setTop { method := m, pc := pc, locals := Ls, stack := _ :: rest, locked := none }) _
  jvm_step X.here [X.here.top, hx, hd, hm', hret, hn]
  first | (intro acts; rw [hl _ acts rfl rfl rfl]) | rw [hl _ _ rfl rfl rfl]
  exact Steps.refl _
end New
end Jvm.RoadKit
namespace Jvm.Pilot.@@N@@
open Jvm Jvm.ClassFile Sem Op Lib Jvm.Free Jvm.Stand Jvm.LawKit Jvm.RoadKit Bundle Jvm.Pilot.@@N@@.Jvm.D
theorem own_refc {v : Value} (h : v.isRef = true) : v = .null ∨ ∃ a, v = .ref a := by cases v <;> simp_all [Value.isRef]
theorem own_narR {t : FieldType} {v : Value} (h : v.isRef = true) : narrow t v = v := by rcases own_refc h with rfl | ⟨_, rfl⟩ <;> cases t <;> rfl
theorem own_selp {s : State} {args : Array Value} {C : String} {y : MethodName} (hs : (Jvm.Cond.selects C y y).before args s = true) (hi : (Jvm.Cond.instanceMethod y).before args s = true) (hp : s.PrivateAt y) (hy : y.cls ≠ "java/lang/invoke/MethodHandle" ∧ y.cls ≠ "java/lang/invoke/VarHandle") : (Jvm.Cond.selects y.cls y y).before args s = true := by
  obtain ⟨c2, r2, m2, -, -, q3, -, kP, hkP, hkPi⟩ := Cond.selects_spec hs
  exact selects_self_of_private (findClass_of_methodNamed q3) hkP hkPi hp hi hy
theorem own_nf {s : State} {args : Array Value} {C : String} {y y' : MethodName} (hs : (Jvm.Cond.selects C y' y').before args s = true) (e : y'.cls = y.cls) : NotFace s y := by
  obtain ⟨c2, r2, m2, -, -, q3, -, kP, hkP, hkPi⟩ := Cond.selects_spec hs
  intro r0 hr0
  have h1 := findClass_of_methodNamed hr0
  have h2 := findClass_of_methodNamed q3
  rw [e, h1] at h2
  exact ⟨kP, by rw [Option.some.inj h2]; exact hkP, hkPi⟩
theorem own_sameM {s : State} {args : Array Value} {C : String} {y y' : MethodName} (hi : (Jvm.Cond.instanceMethod y).before args s = true) (hs : (Jvm.Cond.selects C y' y').before args s = true) (e : y'.cls = y.cls) (hy : y.cls ≠ "java/lang/invoke/MethodHandle" ∧ y.cls ≠ "java/lang/invoke/VarHandle") : (Jvm.Cond.sameMethod y.cls y.cls y.name y.desc).before args s = true := by
  obtain ⟨c2, r2, m2, -, -, q3, -, kP, hkP, hkPi⟩ := Cond.selects_spec hs
  obtain ⟨mk, methM, hnamed, hmethM, -, -⟩ := Cond.instanceMethod_spec hi
  have hfound : s.methodFound? y.cls y.name y.desc = some mk := State.methodFound?_of_named hnamed hy
  have h1 := findClass_of_methodNamed hnamed
  have h2 := findClass_of_methodNamed q3
  rw [e, h1] at h2
  have hk : s.vm.classes[mk.cls]? = some kP := by rw [Option.some.inj h2]; exact hkP
  have hn' : s.methodNamed? ⟨y.cls, y.name, y.desc⟩ = some mk := hnamed
  simp only [Jvm.Cond.before, Jvm.Cond.holds, Jvm.Cond.value, h1, hfound, hn', hk]
  simp; exact hkPi
theorem own_le {Z : State} {n0 : Nat} {h : Heap} (O : Old Z n0 h) : n0 ≤ h.size := O.1 ▸ O.2.1
theorem own_fitR {t : FieldType} {v : Value} (ht : refKind t = true) (h : v.isRef = true) : fits t v = true := by rcases own_refc h with rfl | ⟨_, rfl⟩ <;> cases t <;> simp_all [refKind, fits]
theorem own_root {Z : State} {a0 : Array Value} {O K : String} {n : Nat} (w : (Jvm.Cond.noSuperclass O).before a0 Z = true) (wk : (Jvm.Cond.instantiable K n).before a0 Z = true) (hn : O ≠ K) : NS Z O K := by
  obtain ⟨c, k, h1, h2, h3, -, -⟩ := Cond.noSuperclass_spec w
  obtain ⟨t, k2, g1, -⟩ := Cond.instantiable_spec wk
  have ne := ids_ne h1 g1 hn
  refine ⟨c, t, h1, g1, fun fuel => ?_⟩
  cases fuel with
  | zero => rfl
  | succ f => simp [Vm.isSubclassAux, ne, h2, h3]
theorem own_no {Z : State} {a0 : Array Value} {C S K : String} {n : Nat} (w : (Jvm.Cond.superclass C S).before a0 Z = true) (wk : (Jvm.Cond.instantiable K n).before a0 Z = true) (ns : NS Z C K) (hn : C ≠ K) : ∃ c t, Z.vm.findClass C = some c ∧ Z.vm.findClass K = some t ∧ Z.vm.assignable c t = false := by
  obtain ⟨c, t, h0, g0, n3⟩ := ns
  obtain ⟨p, k, kp, h1, h2, h3, h4, h5, -, h7⟩ := Cond.superclass_spec h0 w
  obtain ⟨q, k', g1, g2, g3, g4, -⟩ := Cond.instantiable_spec wk
  cases g0.symm.trans g1
  have ne := ids_ne h0 g0 hn
  have g5 : k'.isInterface = false := by cases hi : k'.isInterface <;> simp_all
  refine ⟨c, t, h0, g0, ?_⟩
  show Z.vm.assignableAux (255 + 1) c t = false
  simp [Vm.assignableAux, ne, h2, g2, h5, g3, g5, Vm.isSubclass, n3]
theorem own_b8 (x : Int32) : x.toInt8.toInt32.toInt8.toInt32 = x.toInt8.toInt32 := by simp
theorem own_ti {k q : Int32} {n : Int} (e : q.toInt = n) (h : n = k.toInt) : k = q := Int32.toInt_inj.mp (h.symm.trans e.symm)
theorem ne_arv {Z : State} {h : Heap} {a b : Addr} {C : String} {a0 : Array Value} {k : Nat} {kc : ClassId} {ty : FieldType} {z : Int32} {vs : List Value} {dv : Value} (F : Exa Z h a C) (wi : (Jvm.Cond.instantiable C k).before a0 Z = true) (G : Arv Z h b kc ty z vs dv) : a ≠ b := by obtain ⟨c, A, -⟩ := G; exact ne_arr F wi A
theorem mg {l : List Jvm.Cond} {i : Nat} {a : Jvm.Cond} (h : l[i]? = some a) : a ∈ l := List.mem_of_getElem? h
theorem own_eqi {t : Term} {n : Int32} {args : Array Value} {s : State} (h : (Jvm.Cond.eq t (.int n)).value args s none s [] = some true) : t.eval args s none [] s = some (.int n) := by
  simp only [Jvm.Cond.value] at h
  have hn : (Term.int n).eval args s none [] s = some (.int n) := rfl
  rw [hn] at h
  cases hv : t.eval args s none [] s with
  | none => simp [hv] at h
  | some x => cases x <;> simp [hv] at h ⊢; exact h
def TN : List Int32 := [116, 101, 110, 97, 110, 116, 95, 105, 100]
def PN : List Int32 := [112, 114, 111, 106, 101, 99, 116, 95, 105, 100]
/-- the pattern ps stands in ts at the place k -/
def Mat (ts ps : List Int32) (k : Nat) : Prop := ∀ j, j < ps.length → ts.getD (k + j) 0 = ps.getD j 0
/-- one place of nm holds another sign -/
def Ed (nm xs : List Int32) : Prop := ∃ k c, k < nm.length ∧ xs = nm.set k c ∧ ¬ (nm.getD k 0 = c)
def Cov (pt : List (Option Int32)) (ts : List Int32) : Prop := pt.length = ts.length ∧ ∀ i v, pt.getD i none = some v → ts.getD i 0 = v
theorem Cov.app {p1 p2 : List (Option Int32)} {t1 t2 : List Int32} (h1 : Cov p1 t1) (h2 : Cov p2 t2) : Cov (p1 ++ p2) (t1 ++ t2) := by
  refine ⟨by rw [List.length_append, List.length_append, h1.1, h2.1], fun i v h => ?_⟩
  simp only [List.getD_eq_getElem?_getD] at h ⊢
  by_cases hi : i < p1.length
  · rw [List.getElem?_append_left hi] at h
    rw [List.getElem?_append_left (by rw [← h1.1]; exact hi)]
    have := h1.2 i v; simp only [List.getD_eq_getElem?_getD] at this; exact this h
  · rw [List.getElem?_append_right (by omega)] at h
    rw [List.getElem?_append_right (by rw [← h1.1]; omega), ← h1.1]
    have := h2.2 (i - p1.length) v; simp only [List.getD_eq_getElem?_getD] at this; exact this h
theorem Cov.two (a b : Int32) : Cov [none, none] [a, b] := ⟨rfl, fun i v h => by
  match i, h with
  | 0, h => cases h
  | 1, h => cases h
  | n + 2, h => simp at h⟩
theorem Cov.lit (l : List Int32) : Cov (l.map some) l := ⟨by simp, fun i v h => by
  simp only [List.getD_eq_getElem?_getD, List.getElem?_map] at h ⊢
  cases hl : l[i]? with
  | none => simp [hl] at h
  | some x => simp [hl] at h ⊢; exact h⟩
theorem Cov.set (l : List Int32) (k : Nat) (c : Int32) : Cov ((l.map some).set k none) (l.set k c) := ⟨by simp, fun i v h => by
  simp only [List.getD_eq_getElem?_getD] at h ⊢
  by_cases e : k = i
  · subst e
    by_cases hk : k < (l.map some).length
    · rw [List.getElem?_set_self hk] at h; simp at h
    · rw [List.getElem?_eq_none (by simp at hk ⊢; omega)] at h; simp at h
  · rw [List.getElem?_set_ne e] at h
    rw [List.getElem?_set_ne e]
    have := (Cov.lit l).2 i v; simp only [List.getD_eq_getElem?_getD] at this; exact this h⟩
def nom (pt : List (Option Int32)) (ps : List Int32) (k : Nat) : Bool := (List.range ps.length).any fun j => match pt.getD (k + j) none with
  | some v => decide (v ≠ ps.getD j 0)
  | none => false
theorem nom_no {pt : List (Option Int32)} {ts ps : List Int32} {k : Nat} (C : Cov pt ts) (h : nom pt ps k = true) : ¬ Mat ts ps k := fun M => by
  simp only [nom, List.any_eq_true, List.mem_range] at h
  obtain ⟨j, hj, h⟩ := h
  split at h
  · rename_i v hv
    have e := C.2 _ _ hv
    rw [M j hj] at e
    simp at h
    exact h e.symm
  · cases h
def vars (nm : List Int32) : List (List (Option Int32)) := (nm.map some) :: (List.range nm.length).map fun k => (nm.map some).set k none
def frame2 (a b : List (Option Int32)) : List (Option Int32) := [none, none] ++ (a ++ ([none, none] ++ (b ++ [none, none])))
theorem chkT : ((vars TN).all fun a => (vars PN).all fun b => (List.range 17).all fun k => (k == 2 || nom (frame2 a b) TN k) && (k == 14 || nom (frame2 b a) TN k)) = true := by decide +kernel
theorem chkP : ((vars TN).all fun a => (vars PN).all fun b => (List.range 16).all fun k => (k == 13 || nom (frame2 a b) PN k) && (k == 2 || nom (frame2 b a) PN k)) = true := by decide +kernel
theorem in_vars {nm xs : List Int32} (h : xs = nm ∨ Ed nm xs) : ∃ pt ∈ vars nm, Cov pt xs := by
  rcases h with rfl | ⟨k, c, hk, rfl, -⟩
  · exact ⟨_, List.mem_cons_self .., Cov.lit _⟩
  · exact ⟨_, List.mem_cons_of_mem _ (List.mem_map.mpr ⟨k, List.mem_range.mpr hk, rfl⟩), Cov.set nm k c⟩
def text2 (a b c d e f : Int32) (xs ys : List Int32) : List Int32 := [a, b] ++ (xs ++ ([c, d] ++ (ys ++ [e, f])))
theorem cov2 {a b c d e f : Int32} {xs ys : List Int32} {p q : List (Option Int32)} (hp : Cov p xs) (hq : Cov q ys) : Cov (frame2 p q) (text2 a b c d e f xs ys) :=
  (Cov.two a b).app (hp.app ((Cov.two c d).app (hq.app (Cov.two e f))))
theorem mat_at {t0 t2 nm : List Int32} : Mat (t0 ++ (nm ++ t2)) nm t0.length := fun j hj => by
  simp only [List.getD_eq_getElem?_getD]
  rw [List.getElem?_append_right (by omega), List.getElem?_append_left (by omega)]
  congr 2; omega
theorem no_at {t0 t2 nm xs : List Int32} (h : Ed nm xs) : ¬ Mat (t0 ++ (xs ++ t2)) nm t0.length := fun M => by
  obtain ⟨k, c, hk, rfl, hc⟩ := h
  have := M k hk
  simp only [List.getD_eq_getElem?_getD] at this hc
  rw [List.getElem?_append_right (by omega), List.getElem?_append_left (by simp; omega)] at this
  have e : t0.length + k - t0.length = k := by omega
  rw [e, List.getElem?_set_self hk] at this
  exact hc this.symm
/-- the tenant's name first -/
theorem law_tp {a b c d e f : Int32} {xs ys : List Int32} (hx : xs = TN ∨ Ed TN xs) (hy : ys = PN ∨ Ed PN ys) :
    (Ed TN xs → ∀ k, k + TN.length ≤ (text2 a b c d e f xs ys).length → ¬ Mat (text2 a b c d e f xs ys) TN k) ∧ (xs = TN → ∃ k, k + TN.length ≤ (text2 a b c d e f xs ys).length ∧ Mat (text2 a b c d e f xs ys) TN k) ∧
    (Ed PN ys → ∀ k, k + PN.length ≤ (text2 a b c d e f xs ys).length → ¬ Mat (text2 a b c d e f xs ys) PN k) ∧ (ys = PN → ∃ k, k + PN.length ≤ (text2 a b c d e f xs ys).length ∧ Mat (text2 a b c d e f xs ys) PN k) := by
  have lx : xs.length = 9 := by rcases hx with rfl | ⟨k, c, -, rfl, -⟩ <;> simp [TN]
  have ly : ys.length = 10 := by rcases hy with rfl | ⟨k, c, -, rfl, -⟩ <;> simp [PN]
  have lt : (text2 a b c d e f xs ys).length = 25 := by simp [text2, lx, ly]
  have lT : TN.length = 9 := rfl
  have lP : PN.length = 10 := rfl
  obtain ⟨p, hp, Cp⟩ := in_vars hx
  obtain ⟨q, hq, Cq⟩ := in_vars hy
  have C := cov2 (a := a) (b := b) (c := c) (d := d) (e := e) (f := f) Cp Cq
  have KT := chkT
  have KP := chkP
  simp only [List.all_eq_true, List.mem_range, Bool.and_eq_true, Bool.or_eq_true, beq_iff_eq] at KT KP
  have e1 : text2 a b c d e f xs ys = [a, b] ++ (xs ++ ([c, d] ++ (ys ++ [e, f]))) := rfl
  have e2 : text2 a b c d e f xs ys = ([a, b] ++ (xs ++ [c, d])) ++ (ys ++ [e, f]) := by simp [text2]
  refine ⟨fun h k hk => ?_, fun h => ?_, fun h k hk => ?_, fun h => ?_⟩
  · rcases (KT p hp q hq k (by omega)).1 with rfl | n
    · rw [e1]; exact no_at (t0 := [a, b]) h
    · exact nom_no C n
  · exact ⟨2, by omega, by rw [e1, h]; exact mat_at (t0 := [a, b])⟩
  · rcases (KP p hp q hq k (by omega)).1 with rfl | n
    · rw [e2]; have := no_at (t0 := [a, b] ++ (xs ++ [c, d])) (t2 := [e, f]) h; simpa [lx] using this
    · exact nom_no C n
  · refine ⟨13, by omega, ?_⟩
    rw [e2, h]; have := mat_at (t0 := [a, b] ++ (xs ++ [c, d])) (t2 := [e, f]) (nm := PN); simpa [lx] using this
/-- the project's name first -/
theorem law_pt {a b c d e f : Int32} {xs ys : List Int32} (hx : xs = TN ∨ Ed TN xs) (hy : ys = PN ∨ Ed PN ys) :
    (Ed TN xs → ∀ k, k + TN.length ≤ (text2 a b c d e f ys xs).length → ¬ Mat (text2 a b c d e f ys xs) TN k) ∧ (xs = TN → ∃ k, k + TN.length ≤ (text2 a b c d e f ys xs).length ∧ Mat (text2 a b c d e f ys xs) TN k) ∧
    (Ed PN ys → ∀ k, k + PN.length ≤ (text2 a b c d e f ys xs).length → ¬ Mat (text2 a b c d e f ys xs) PN k) ∧ (ys = PN → ∃ k, k + PN.length ≤ (text2 a b c d e f ys xs).length ∧ Mat (text2 a b c d e f ys xs) PN k) := by
  have lx : xs.length = 9 := by rcases hx with rfl | ⟨k, c, -, rfl, -⟩ <;> simp [TN]
  have ly : ys.length = 10 := by rcases hy with rfl | ⟨k, c, -, rfl, -⟩ <;> simp [PN]
  have lt : (text2 a b c d e f ys xs).length = 25 := by simp [text2, lx, ly]
  have lT : TN.length = 9 := rfl
  have lP : PN.length = 10 := rfl
  obtain ⟨p, hp, Cp⟩ := in_vars hx
  obtain ⟨q, hq, Cq⟩ := in_vars hy
  have C := cov2 (a := a) (b := b) (c := c) (d := d) (e := e) (f := f) Cq Cp
  have KT := chkT
  have KP := chkP
  simp only [List.all_eq_true, List.mem_range, Bool.and_eq_true, Bool.or_eq_true, beq_iff_eq] at KT KP
  have e1 : text2 a b c d e f ys xs = [a, b] ++ (ys ++ ([c, d] ++ (xs ++ [e, f]))) := rfl
  have e2 : text2 a b c d e f ys xs = ([a, b] ++ (ys ++ [c, d])) ++ (xs ++ [e, f]) := by simp [text2]
  refine ⟨fun h k hk => ?_, fun h => ?_, fun h k hk => ?_, fun h => ?_⟩
  · rcases (KT p hp q hq k (by omega)).2 with rfl | n
    · rw [e2]; have := no_at (t0 := [a, b] ++ (ys ++ [c, d])) (t2 := [e, f]) h; simpa [ly] using this
    · exact nom_no C n
  · refine ⟨14, by omega, ?_⟩
    rw [e2, h]; have := mat_at (t0 := [a, b] ++ (ys ++ [c, d])) (t2 := [e, f]) (nm := TN); simpa [ly] using this
  · rcases (KP p hp q hq k (by omega)).2 with rfl | n
    · rw [e1]; exact no_at (t0 := [a, b]) h
    · exact nom_no C n
  · exact ⟨2, by omega, by rw [e1, h]; exact mat_at (t0 := [a, b])⟩
theorem own_pick_n {r : Int32} {A B : Prop} (h : (r < 0 ∧ A) ∨ (¬ r < 0 ∧ B)) (hb : r < (0 : Int32)) : ((0 : Int32) = (0 : Int32) ∧ A) ∨ ((0 : Int32) = (1 : Int32) ∧ B) := by
  rcases h with h | h
  · exact Or.inl ⟨rfl, h.2⟩
  · exact absurd hb h.1
theorem own_pick_y {r : Int32} {A B : Prop} (h : (r < 0 ∧ A) ∨ (¬ r < 0 ∧ B)) (hb : ¬ (r < (0 : Int32))) : ((1 : Int32) = (0 : Int32) ∧ A) ∨ ((1 : Int32) = (1 : Int32) ∧ B) := by
  rcases h with h | h
  · exact absurd h.1 hb
  · exact Or.inr ⟨rfl, h.2⟩

def gapv (q0 : Int64) (i2 : Int32) : Int32 := (((((q0.toUInt64 >>> (((8 : Int32) * i2) &&& 0x3f).toInt64.toUInt64).toInt64) &&& (255 : Int64)).toInt32).toUInt32.toUInt16.toUInt32.toInt32)
def Ch (x : Int32) : Prop := 0 ≤ x.toInt ∧ x.toInt ≤ 255
theorem own_chn {x : Int32} (h : Ch x) : x.toUInt32.toUInt16.toUInt32.toInt32 = x := by
  have c := c_i2c x
  unfold Ch at h
  exact Int32.toInt_inj.mp (by omega)
theorem own_ch255 {x : Int32} (h : Ch x) : ¬ ((255 : Int32) < x) := by
  rw [Int32.lt_iff_toInt_lt, show (255 : Int32).toInt = 255 from by decide]
  unfold Ch at h; omega
theorem own_chm (x : Int32) : Ch (x &&& (255 : Int32)) := by
  have := c_and x 255 (by decide)
  rw [show (255 : Int32).toInt = 255 from by decide] at this
  exact this
theorem own_gapch (q0 : Int64) (i2 : Int32) : Ch (gapv q0 i2) := by
  unfold gapv
  generalize (q0.toUInt64 >>> (((8 : Int32) * i2) &&& 0x3f).toInt64.toUInt64).toInt64 = y
  have h1 := c_maskL y 255 8 (by decide) (by decide)
  have h2 : 0 ≤ (y &&& (255 : Int64)).toInt ∧ (y &&& (255 : Int64)).toInt < 256 := by rw [h1]; omega
  have h3 := c_l2i (y &&& (255 : Int64))
  have h4 := rng32 (y &&& (255 : Int64)).toInt32
  have h5 := c_i2c (y &&& (255 : Int64)).toInt32
  unfold Ch; omega
theorem d1_0 : decode method_3_code 0 = .ok (.lload_n 0, 1) := by decide +kernel
theorem d1_1 : decode method_3_code 1 = .ok (.bipush 8, 2) := by decide +kernel
theorem d1_3 : decode method_3_code 3 = .ok (.iload_n 2, 1) := by decide +kernel
theorem d1_4 : decode method_3_code 4 = .ok (.imul, 1) := by decide +kernel
theorem d1_5 : decode method_3_code 5 = .ok (.lushr, 1) := by decide +kernel
theorem d1_6 : decode method_3_code 6 = .ok (.ldc2_w 37, 3) := by decide +kernel
theorem d1_9 : decode method_3_code 9 = .ok (.land, 1) := by decide +kernel
theorem d1_10 : decode method_3_code 10 = .ok (.l2i, 1) := by decide +kernel
theorem d1_11 : decode method_3_code 11 = .ok (.i2c, 1) := by decide +kernel
theorem d1_12 : decode method_3_code 12 = .ok (.ireturn, 1) := by decide +kernel
theorem pn_com_example_ulinzi_ulinzi_model_OwnerFilterWrittenInPinLaw : plainName "com/example/ulinzi/ulinzi/model/OwnerFilterWrittenInPinLaw" = true := by first | (simp [plainName, overriddenIn]; done) | decide +kernel
theorem ef_rm1 (m : MethodId) (q0 : Int64) (i2 : Int32) : entryFrame m #[(.long q0), (.int i2)] 3 = mkF m 0 #[.val (.long q0), .second, .val (.int i2)] [] := by first | (simp [entryFrame, mkF, argsToLocals, Value.category]; done) | rfl
def Q_rm1 (Z : State) (q0 : Int64) (i2 : Int32) (h0 : Heap) (n0 : Nat) (v : Option Value) (h : Heap) (L : List Loc) : Prop := v = some (.int (gapv q0 i2)) ∧ Fr n0 L ∧ h = h0
set_option maxRecDepth 65536 in
set_option maxHeartbeats 40000000 in
theorem rm1 (l : Launch) (Z : State) (av0 : Array Value) (hw : ∀ d ∈ tables_1, d.before av0 Z = true) (ws : List Jvm.Cond) (q0 : Int64) (i2 : Int32) (h0 : Heap) (n0 : Nat) (Z0 : n0 ≤ h0.size) :
    MetFree l (⟨"com/example/ulinzi/ulinzi/model/OwnerFilterWrittenInPinLaw", "gap", "(JI)C"⟩ : MethodName) (head1 (Jvm.Cond.code (⟨"com/example/ulinzi/ulinzi/model/OwnerFilterWrittenInPinLaw", "gap", "(JI)C"⟩ : MethodName) method_3_code 3 (some .char) :: ws) ({ frames := 0, cells := 0, slots := 0, locals := 0 } : Room)) (fun a U => a = #[(.long q0), (.int i2)] ∧ Z.Warmed39 U.vm ∧ U.heap = h0) (fun _ _ _ _ _ => True) (fun _ U o U' => ∃ v L, o = .returned v ∧ Q_rm1 Z q0 i2 h0 n0 v U'.heap L ∧ FrameEnd U o U' L ({ frames := 0, cells := 0, slots := 0, locals := 0 } : Room).cells ({ frames := 0, cells := 0, slots := 0, locals := 0 } : Room).slots) := by
  refine MetFree.of_bodySF (plainFor_of_name pn_com_example_ulinzi_ulinzi_model_OwnerFilterWrittenInPinLaw) hisR ?_
  intro p e s m args below meth c s₁ Bd hml0 hP hK
  obtain ⟨rfl, hZ, hh⟩ := hP
  have hx := Bd.exec
  have hby := Bd.bytes
  have hml : c.maxLocals = 3 := hml0
  have hown : s.vm.findClass "com/example/ulinzi/ulinzi/model/OwnerFilterWrittenInPinLaw" = some m.cls := findClass_of_methodNamed Bd.named
  have hnm := (name_of_methodNamed Bd.named Bd.method).1
  have X0 : Stand p l e ({ frames := 0, cells := 0, slots := 0, locals := 0 } : Room) s m #[(.long q0), (.int i2)] below meth c s₁ [] 0 0 := Stand.of_body Bd
  have e0 : s₁.heap = h0 := by rw [← hh, Bd.state]; rfl
  have N0 := Fr.nil n0
  have pre0 : ∀ tz_, Steps p.tables e below (s₁.setTop (mkF m 0 #[.val (.long q0), .second, .val (.int i2)] [])) tz_ → Steps p.tables e below (s₁.setTop (entryFrame m #[(.long q0), (.int i2)] 3)) tz_ := fun tz_ kz_ => castTop (ef_rm1 m q0 i2) kz_
  obtain ⟨fs, hrL, hrun, hended, hW, hsame⟩ := X0.leave (v := some (.int (((((q0.toUInt64 >>> (((8 : Int32) * i2) &&& 0x3f).toInt64.toUInt64).toInt64) &&& (255 : Int64)).toInt32).toUInt32.toUInt16.toUInt32.toInt32))) (fun h => by rw [Bd.returns] at h; cases h)
  refine ⟨_, _, pre0 _ ?_, hrun, hended, _, _, rfl, ?_, ⟨_, rfl⟩, hW, hsame.mono (by decide) (by decide)⟩
  · show Steps p.tables e below (s₁.setTop (mkF m 0 #[.val (.long q0), .second, .val (.int i2)] [])) _
    refine XS.lloadN X0.here hx rfl (hb hby d1_0) rfl ?_
    refine XS.bipush X0.here hx rfl (hb hby d1_1) ?_
    refine XS.iloadN X0.here hx rfl (hb hby d1_3) rfl ?_
    show Steps p.tables e below (s₁.setTop (mkF m 4 #[.val (.long q0), .second, .val (.int i2)] [(.int i2), (.int 8), (.long q0)])) _
    refine XS.imul X0.here hx rfl (hb hby d1_4) rfl ?_
    show Steps p.tables e below (s₁.setTop (mkF m 5 #[.val (.long q0), .second, .val (.int i2)] [(.int ((8 : Int32) * i2)), (.long q0)])) _
    refine XS.lushr X0.here hx rfl (hb hby d1_5) rfl ?_
    show Steps p.tables e below (s₁.setTop (mkF m 6 #[.val (.long q0), .second, .val (.int i2)] [(.long ((q0.toUInt64 >>> (((8 : Int32) * i2) &&& 0x3f).toInt64.toUInt64).toInt64))])) _
    refine X0.ldc2Long hx hown (mvT hZ (hw _ (mg (i := 5) rfl))) (g := (mkF m 6 #[.val (.long q0), .second, .val (.int i2)] [(.long ((q0.toUInt64 >>> (((8 : Int32) * i2) &&& 0x3f).toInt64.toUInt64).toInt64))])) rfl (hb hby d1_6) _ ?_
    show Steps p.tables e below (s₁.setTop (mkF m 9 #[.val (.long q0), .second, .val (.int i2)] [(.long (255 : Int64)), (.long ((q0.toUInt64 >>> (((8 : Int32) * i2) &&& 0x3f).toInt64.toUInt64).toInt64))])) _
    refine XS.land X0.here hx rfl (hb hby d1_9) rfl ?_
    show Steps p.tables e below (s₁.setTop (mkF m 10 #[.val (.long q0), .second, .val (.int i2)] [(.long (((q0.toUInt64 >>> (((8 : Int32) * i2) &&& 0x3f).toInt64.toUInt64).toInt64) &&& (255 : Int64)))])) _
    refine XS.l2i X0.here hx rfl (hb hby d1_10) rfl ?_
    show Steps p.tables e below (s₁.setTop (mkF m 11 #[.val (.long q0), .second, .val (.int i2)] [(.int ((((q0.toUInt64 >>> (((8 : Int32) * i2) &&& 0x3f).toInt64.toUInt64).toInt64) &&& (255 : Int64)).toInt32))])) _
    refine XS.i2c X0.here hx rfl (hb hby d1_11) rfl ?_
    show Steps p.tables e below (s₁.setTop (mkF m 12 #[.val (.long q0), .second, .val (.int i2)] [(.int (((((q0.toUInt64 >>> (((8 : Int32) * i2) &&& 0x3f).toInt64.toUInt64).toInt64) &&& (255 : Int64)).toInt32).toUInt32.toUInt16.toUInt32.toInt32))])) _
    exact retOut X0 hx Bd.returns (Jvm.Free.XT.narrow_c _) (Or.inl ⟨rfl, by simp, _, rfl⟩) (hb hby d1_12) hrL
  · show Q_rm1 _ _ _ _ _ _  s₁.heap _
    rw [e0]
    exact ⟨rfl, N0, rfl⟩
theorem d2_0 : decode method_4_code 0 = .ok (.aload_n 0, 1) := by decide +kernel
theorem d2_1 : decode method_4_code 1 = .ok (.iload_n 1, 1) := by decide +kernel
theorem d2_2 : decode method_4_code 2 = .ok (.aload_n 2, 1) := by decide +kernel
theorem d2_3 : decode method_4_code 3 = .ok (.iconst 0, 1) := by decide +kernel
theorem d2_4 : decode method_4_code 4 = .ok (.caload, 1) := by decide +kernel
theorem d2_5 : decode method_4_code 5 = .ok (.castore, 1) := by decide +kernel
theorem d2_6 : decode method_4_code 6 = .ok (.aload_n 0, 1) := by decide +kernel
theorem d2_7 : decode method_4_code 7 = .ok (.iload_n 1, 1) := by decide +kernel
theorem d2_8 : decode method_4_code 8 = .ok (.iconst 1, 1) := by decide +kernel
theorem d2_9 : decode method_4_code 9 = .ok (.iadd, 1) := by decide +kernel
theorem d2_10 : decode method_4_code 10 = .ok (.aload_n 2, 1) := by decide +kernel
theorem d2_11 : decode method_4_code 11 = .ok (.iconst 1, 1) := by decide +kernel
theorem d2_12 : decode method_4_code 12 = .ok (.caload, 1) := by decide +kernel
theorem d2_13 : decode method_4_code 13 = .ok (.castore, 1) := by decide +kernel
theorem d2_14 : decode method_4_code 14 = .ok (.aload_n 0, 1) := by decide +kernel
theorem d2_15 : decode method_4_code 15 = .ok (.iload_n 1, 1) := by decide +kernel
theorem d2_16 : decode method_4_code 16 = .ok (.iconst 2, 1) := by decide +kernel
theorem d2_17 : decode method_4_code 17 = .ok (.iadd, 1) := by decide +kernel
theorem d2_18 : decode method_4_code 18 = .ok (.aload_n 2, 1) := by decide +kernel
theorem d2_19 : decode method_4_code 19 = .ok (.iconst 2, 1) := by decide +kernel
theorem d2_20 : decode method_4_code 20 = .ok (.caload, 1) := by decide +kernel
theorem d2_21 : decode method_4_code 21 = .ok (.castore, 1) := by decide +kernel
theorem d2_22 : decode method_4_code 22 = .ok (.aload_n 0, 1) := by decide +kernel
theorem d2_23 : decode method_4_code 23 = .ok (.iload_n 1, 1) := by decide +kernel
theorem d2_24 : decode method_4_code 24 = .ok (.iconst 3, 1) := by decide +kernel
theorem d2_25 : decode method_4_code 25 = .ok (.iadd, 1) := by decide +kernel
theorem d2_26 : decode method_4_code 26 = .ok (.aload_n 2, 1) := by decide +kernel
theorem d2_27 : decode method_4_code 27 = .ok (.iconst 3, 1) := by decide +kernel
theorem d2_28 : decode method_4_code 28 = .ok (.caload, 1) := by decide +kernel
theorem d2_29 : decode method_4_code 29 = .ok (.castore, 1) := by decide +kernel
theorem d2_30 : decode method_4_code 30 = .ok (.aload_n 0, 1) := by decide +kernel
theorem d2_31 : decode method_4_code 31 = .ok (.iload_n 1, 1) := by decide +kernel
theorem d2_32 : decode method_4_code 32 = .ok (.iconst 4, 1) := by decide +kernel
theorem d2_33 : decode method_4_code 33 = .ok (.iadd, 1) := by decide +kernel
theorem d2_34 : decode method_4_code 34 = .ok (.aload_n 2, 1) := by decide +kernel
theorem d2_35 : decode method_4_code 35 = .ok (.iconst 4, 1) := by decide +kernel
theorem d2_36 : decode method_4_code 36 = .ok (.caload, 1) := by decide +kernel
theorem d2_37 : decode method_4_code 37 = .ok (.castore, 1) := by decide +kernel
theorem d2_38 : decode method_4_code 38 = .ok (.aload_n 0, 1) := by decide +kernel
theorem d2_39 : decode method_4_code 39 = .ok (.iload_n 1, 1) := by decide +kernel
theorem d2_40 : decode method_4_code 40 = .ok (.iconst 5, 1) := by decide +kernel
theorem d2_41 : decode method_4_code 41 = .ok (.iadd, 1) := by decide +kernel
theorem d2_42 : decode method_4_code 42 = .ok (.aload_n 2, 1) := by decide +kernel
theorem d2_43 : decode method_4_code 43 = .ok (.iconst 5, 1) := by decide +kernel
theorem d2_44 : decode method_4_code 44 = .ok (.caload, 1) := by decide +kernel
theorem d2_45 : decode method_4_code 45 = .ok (.castore, 1) := by decide +kernel
theorem d2_46 : decode method_4_code 46 = .ok (.aload_n 0, 1) := by decide +kernel
theorem d2_47 : decode method_4_code 47 = .ok (.iload_n 1, 1) := by decide +kernel
theorem d2_48 : decode method_4_code 48 = .ok (.bipush 6, 2) := by decide +kernel
theorem d2_50 : decode method_4_code 50 = .ok (.iadd, 1) := by decide +kernel
theorem d2_51 : decode method_4_code 51 = .ok (.aload_n 2, 1) := by decide +kernel
theorem d2_52 : decode method_4_code 52 = .ok (.bipush 6, 2) := by decide +kernel
theorem d2_54 : decode method_4_code 54 = .ok (.caload, 1) := by decide +kernel
theorem d2_55 : decode method_4_code 55 = .ok (.castore, 1) := by decide +kernel
theorem d2_56 : decode method_4_code 56 = .ok (.aload_n 0, 1) := by decide +kernel
theorem d2_57 : decode method_4_code 57 = .ok (.iload_n 1, 1) := by decide +kernel
theorem d2_58 : decode method_4_code 58 = .ok (.bipush 7, 2) := by decide +kernel
theorem d2_60 : decode method_4_code 60 = .ok (.iadd, 1) := by decide +kernel
theorem d2_61 : decode method_4_code 61 = .ok (.aload_n 2, 1) := by decide +kernel
theorem d2_62 : decode method_4_code 62 = .ok (.bipush 7, 2) := by decide +kernel
theorem d2_64 : decode method_4_code 64 = .ok (.caload, 1) := by decide +kernel
theorem d2_65 : decode method_4_code 65 = .ok (.castore, 1) := by decide +kernel
theorem d2_66 : decode method_4_code 66 = .ok (.aload_n 0, 1) := by decide +kernel
theorem d2_67 : decode method_4_code 67 = .ok (.iload_n 1, 1) := by decide +kernel
theorem d2_68 : decode method_4_code 68 = .ok (.bipush 8, 2) := by decide +kernel
theorem d2_70 : decode method_4_code 70 = .ok (.iadd, 1) := by decide +kernel
theorem d2_71 : decode method_4_code 71 = .ok (.aload_n 2, 1) := by decide +kernel
theorem d2_72 : decode method_4_code 72 = .ok (.bipush 8, 2) := by decide +kernel
theorem d2_74 : decode method_4_code 74 = .ok (.caload, 1) := by decide +kernel
theorem d2_75 : decode method_4_code 75 = .ok (.castore, 1) := by decide +kernel
theorem d2_76 : decode method_4_code 76 = .ok (.aload_n 2, 1) := by decide +kernel
theorem d2_77 : decode method_4_code 77 = .ok (.arraylength, 1) := by decide +kernel
theorem d2_78 : decode method_4_code 78 = .ok (.bipush 10, 2) := by decide +kernel
theorem d2_80 : decode method_4_code 80 = .ok (.if_icmp .ne 13, 3) := by decide +kernel
theorem d2_93 : decode method_4_code 93 = .ok (.iload_n 1, 1) := by decide +kernel
theorem d2_94 : decode method_4_code 94 = .ok (.aload_n 2, 1) := by decide +kernel
theorem d2_95 : decode method_4_code 95 = .ok (.arraylength, 1) := by decide +kernel
theorem d2_96 : decode method_4_code 96 = .ok (.iadd, 1) := by decide +kernel
theorem d2_97 : decode method_4_code 97 = .ok (.ireturn, 1) := by decide +kernel
theorem ef_place_2_9 (m : MethodId) (a0 : Addr) (a2 : Addr) : entryFrame m #[(.ref a0), (.int 2), (.ref a2)] 3 = mkF m 0 #[.val (.ref a0), .val (.int 2), .val (.ref a2)] [] := by first | (simp [entryFrame, mkF, argsToLocals, Value.category]; done) | rfl
def Q_place_2_9 (Z : State) (a0 : Addr) (a2 : Addr) (s0 : Int32) (s1 : Int32) (s2 : Int32) (s3 : Int32) (s4 : Int32) (s5 : Int32) (s6 : Int32) (s7 : Int32) (s8 : Int32) (s9 : Int32) (s10 : Int32) (s11 : Int32) (s12 : Int32) (s13 : Int32) (s14 : Int32) (s15 : Int32) (s16 : Int32) (s17 : Int32) (s18 : Int32) (s19 : Int32) (s20 : Int32) (s21 : Int32) (s22 : Int32) (s23 : Int32) (s24 : Int32) (y0 : Int32) (y1 : Int32) (y2 : Int32) (y3 : Int32) (y4 : Int32) (y5 : Int32) (y6 : Int32) (y7 : Int32) (y8 : Int32) (k0 : ClassId) (k2 : ClassId) (h0 : Heap) (n0 : Nat) (v : Option Value) (h : Heap) (L : List Loc) : Prop := v = some (.int 11) ∧ Fr n0 L ∧ Keep h0 h [a0] ∧ Arv Z h a0 k0 .char (25 : Int32) [(.int s0), (.int s1), (.int y0), (.int y1), (.int y2), (.int y3), (.int y4), (.int y5), (.int y6), (.int y7), (.int y8), (.int s11), (.int s12), (.int s13), (.int s14), (.int s15), (.int s16), (.int s17), (.int s18), (.int s19), (.int s20), (.int s21), (.int s22), (.int s23), (.int s24)] (.int 0)
set_option maxRecDepth 65536 in
set_option maxHeartbeats 40000000 in
theorem place_2_9 (l : Launch) (Z : State) (av0 : Array Value) (hw : ∀ d ∈ tables_1, d.before av0 Z = true) (ws : List Jvm.Cond) (a0 : Addr) (a2 : Addr) (s0 : Int32) (s1 : Int32) (s2 : Int32) (s3 : Int32) (s4 : Int32) (s5 : Int32) (s6 : Int32) (s7 : Int32) (s8 : Int32) (s9 : Int32) (s10 : Int32) (s11 : Int32) (s12 : Int32) (s13 : Int32) (s14 : Int32) (s15 : Int32) (s16 : Int32) (s17 : Int32) (s18 : Int32) (s19 : Int32) (s20 : Int32) (s21 : Int32) (s22 : Int32) (s23 : Int32) (s24 : Int32) (y0 : Int32) (y1 : Int32) (y2 : Int32) (y3 : Int32) (y4 : Int32) (y5 : Int32) (y6 : Int32) (y7 : Int32) (y8 : Int32) (k0 : ClassId) (k2 : ClassId) (h0 : Heap) (n0 : Nat) (Z0 : n0 ≤ h0.size) (p0_A : Arv Z h0 a0 k0 .char (25 : Int32) [(.int s0), (.int s1), (.int s2), (.int s3), (.int s4), (.int s5), (.int s6), (.int s7), (.int s8), (.int s9), (.int s10), (.int s11), (.int s12), (.int s13), (.int s14), (.int s15), (.int s16), (.int s17), (.int s18), (.int s19), (.int s20), (.int s21), (.int s22), (.int s23), (.int s24)] (.int 0)) (p1_A : Arv Z h0 a2 k2 .char (9 : Int32) [(.int y0), (.int y1), (.int y2), (.int y3), (.int y4), (.int y5), (.int y6), (.int y7), (.int y8)] (.int 0)) (p2_ne : a0 ≠ a2) (p3_g : n0 ≤ a0) (hn_0 : Ch y0) (hn_1 : Ch y1) (hn_2 : Ch y2) (hn_3 : Ch y3) (hn_4 : Ch y4) (hn_5 : Ch y5) (hn_6 : Ch y6) (hn_7 : Ch y7) (hn_8 : Ch y8) :
    MetFree l (⟨"com/example/ulinzi/ulinzi/model/OwnerFilterWrittenInPinLaw", "place", "([CI[C)I"⟩ : MethodName) (head1 (Jvm.Cond.code (⟨"com/example/ulinzi/ulinzi/model/OwnerFilterWrittenInPinLaw", "place", "([CI[C)I"⟩ : MethodName) method_4_code 3 (some .int) :: ws) ({ frames := 0, cells := 0, slots := 0, locals := 0 } : Room)) (fun a U => a = #[(.ref a0), (.int 2), (.ref a2)] ∧ Z.Warmed39 U.vm ∧ U.heap = h0) (fun _ _ _ _ _ => True) (fun _ U o U' => ∃ v L, o = .returned v ∧ Q_place_2_9 Z a0 a2 s0 s1 s2 s3 s4 s5 s6 s7 s8 s9 s10 s11 s12 s13 s14 s15 s16 s17 s18 s19 s20 s21 s22 s23 s24 y0 y1 y2 y3 y4 y5 y6 y7 y8 k0 k2 h0 n0 v U'.heap L ∧ FrameEnd U o U' L ({ frames := 0, cells := 0, slots := 0, locals := 0 } : Room).cells ({ frames := 0, cells := 0, slots := 0, locals := 0 } : Room).slots) := by
  refine MetFree.of_bodySF (plainFor_of_name pn_com_example_ulinzi_ulinzi_model_OwnerFilterWrittenInPinLaw) hisR ?_
  intro p e s m args below meth c s₁ Bd hml0 hP hK
  obtain ⟨rfl, hZ, hh⟩ := hP
  have hx := Bd.exec
  have hby := Bd.bytes
  have hml : c.maxLocals = 3 := hml0
  have hown : s.vm.findClass "com/example/ulinzi/ulinzi/model/OwnerFilterWrittenInPinLaw" = some m.cls := findClass_of_methodNamed Bd.named
  have hnm := (name_of_methodNamed Bd.named Bd.method).1
  have X0 : Stand p l e ({ frames := 0, cells := 0, slots := 0, locals := 0 } : Room) s m #[(.ref a0), (.int 2), (.ref a2)] below meth c s₁ [] 0 0 := Stand.of_body Bd
  have e0 : s₁.heap = h0 := by rw [← hh, Bd.state]; rfl
  have N0 := Fr.nil n0
  have pre0 : ∀ tz_, Steps p.tables e below (s₁.setTop (mkF m 0 #[.val (.ref a0), .val (.int 2), .val (.ref a2)] [])) tz_ → Steps p.tables e below (s₁.setTop (entryFrame m #[(.ref a0), (.int 2), (.ref a2)] 3)) tz_ := fun tz_ kz_ => castTop (ef_place_2_9 m a0 a2) kz_
  have K0 : Keep h0 h0 [a0] := Keep.refl h0 [a0]
  obtain ⟨cl31, Ar31, qk31, qs31, qn31, qh31, qg31⟩ := id p1_A
  have hin31 : ¬ ((0 : Int32) < 0 ∨ cl31.slots.size ≤ ((0 : Int32)).toNatClampNeg) := inb_of qs31 ⟨by decide, by decide⟩
  have hat31 : cl31.slots[((0 : Int32)).toNatClampNeg]? = some (.int y0) := qh31.at hin31 rfl
  obtain ⟨cl32, Ar32, qk32, qs32, qn32, qh32, qg32⟩ := id p0_A
  have hin32 : ¬ ((2 : Int32) < 0 ∨ cl32.slots.size ≤ ((2 : Int32)).toNatClampNeg) := inb_of qs32 ⟨by decide, by decide⟩
  obtain ⟨T33, h33, X33, e33, W33, st33⟩ := stC X0 hx hZ e0 Ar32 (j := (2 : Int32)) hin32 (g := (mkF m 5 #[.val (.ref a0), .val (.int 2), .val (.ref a2)] [(.int y0), (.int 2), (.ref a0)])) rfl rfl (hb hby d2_5)
  have V33 : Arv Z h33 a0 k0 .char (25 : Int32) [(.int s0), (.int s1), (.int (y0.toUInt32.toUInt16.toUInt32.toInt32)), (.int s3), (.int s4), (.int s5), (.int s6), (.int s7), (.int s8), (.int s9), (.int s10), (.int s11), (.int s12), (.int s13), (.int s14), (.int s15), (.int s16), (.int s17), (.int s18), (.int s19), (.int s20), (.int s21), (.int s22), (.int s23), (.int s24)] (.int 0) := Arv.set Ar32 qk32 qs32 qn32 qh32 qg32 (fits_nar_char _) W33 2 rfl (Nat.le_of_ble_eq_true rfl)
  rw [own_chn hn_0] at V33
  have N33 := Fr.snoc X33 N0 p3_g
  have K34 := K0.wr W33 (Or.inl (List.mem_of_getElem? (i := 0) rfl))
  have f35 := (p1_A.other W33 (Ne.symm p2_ne))
  obtain ⟨cl36, Ar36, qk36, qs36, qn36, qh36, qg36⟩ := id f35
  have hin36 : ¬ ((1 : Int32) < 0 ∨ cl36.slots.size ≤ ((1 : Int32)).toNatClampNeg) := inb_of qs36 ⟨by decide, by decide⟩
  have hat36 : cl36.slots[((1 : Int32)).toNatClampNeg]? = some (.int y1) := qh36.at hin36 rfl
  obtain ⟨cl37, Ar37, qk37, qs37, qn37, qh37, qg37⟩ := id V33
  have hin37 : ¬ ((3 : Int32) < 0 ∨ cl37.slots.size ≤ ((3 : Int32)).toNatClampNeg) := inb_of qs37 ⟨by decide, by decide⟩
  obtain ⟨T38, h38, X38, e38, W38, st38⟩ := stC X33 hx hZ e33 Ar37 (j := (3 : Int32)) hin37 (g := (mkF m 13 #[.val (.ref a0), .val (.int 2), .val (.ref a2)] [(.int y1), (.int 3), (.ref a0)])) rfl rfl (hb hby d2_13)
  have V38 : Arv Z h38 a0 k0 .char (25 : Int32) [(.int s0), (.int s1), (.int y0), (.int (y1.toUInt32.toUInt16.toUInt32.toInt32)), (.int s4), (.int s5), (.int s6), (.int s7), (.int s8), (.int s9), (.int s10), (.int s11), (.int s12), (.int s13), (.int s14), (.int s15), (.int s16), (.int s17), (.int s18), (.int s19), (.int s20), (.int s21), (.int s22), (.int s23), (.int s24)] (.int 0) := Arv.set Ar37 qk37 qs37 qn37 qh37 qg37 (fits_nar_char _) W38 3 rfl (Nat.le_of_ble_eq_true rfl)
  rw [own_chn hn_1] at V38
  have N38 := Fr.snoc X38 N33 p3_g
  have K39 := K34.wr W38 (Or.inl (List.mem_of_getElem? (i := 0) rfl))
  have f40 := (f35.other W38 (Ne.symm p2_ne))
  obtain ⟨cl41, Ar41, qk41, qs41, qn41, qh41, qg41⟩ := id f40
  have hin41 : ¬ ((2 : Int32) < 0 ∨ cl41.slots.size ≤ ((2 : Int32)).toNatClampNeg) := inb_of qs41 ⟨by decide, by decide⟩
  have hat41 : cl41.slots[((2 : Int32)).toNatClampNeg]? = some (.int y2) := qh41.at hin41 rfl
  obtain ⟨cl42, Ar42, qk42, qs42, qn42, qh42, qg42⟩ := id V38
  have hin42 : ¬ ((4 : Int32) < 0 ∨ cl42.slots.size ≤ ((4 : Int32)).toNatClampNeg) := inb_of qs42 ⟨by decide, by decide⟩
  obtain ⟨T43, h43, X43, e43, W43, st43⟩ := stC X38 hx hZ e38 Ar42 (j := (4 : Int32)) hin42 (g := (mkF m 21 #[.val (.ref a0), .val (.int 2), .val (.ref a2)] [(.int y2), (.int 4), (.ref a0)])) rfl rfl (hb hby d2_21)
  have V43 : Arv Z h43 a0 k0 .char (25 : Int32) [(.int s0), (.int s1), (.int y0), (.int y1), (.int (y2.toUInt32.toUInt16.toUInt32.toInt32)), (.int s5), (.int s6), (.int s7), (.int s8), (.int s9), (.int s10), (.int s11), (.int s12), (.int s13), (.int s14), (.int s15), (.int s16), (.int s17), (.int s18), (.int s19), (.int s20), (.int s21), (.int s22), (.int s23), (.int s24)] (.int 0) := Arv.set Ar42 qk42 qs42 qn42 qh42 qg42 (fits_nar_char _) W43 4 rfl (Nat.le_of_ble_eq_true rfl)
  rw [own_chn hn_2] at V43
  have N43 := Fr.snoc X43 N38 p3_g
  have K44 := K39.wr W43 (Or.inl (List.mem_of_getElem? (i := 0) rfl))
  have f45 := (f40.other W43 (Ne.symm p2_ne))
  obtain ⟨cl46, Ar46, qk46, qs46, qn46, qh46, qg46⟩ := id f45
  have hin46 : ¬ ((3 : Int32) < 0 ∨ cl46.slots.size ≤ ((3 : Int32)).toNatClampNeg) := inb_of qs46 ⟨by decide, by decide⟩
  have hat46 : cl46.slots[((3 : Int32)).toNatClampNeg]? = some (.int y3) := qh46.at hin46 rfl
  obtain ⟨cl47, Ar47, qk47, qs47, qn47, qh47, qg47⟩ := id V43
  have hin47 : ¬ ((5 : Int32) < 0 ∨ cl47.slots.size ≤ ((5 : Int32)).toNatClampNeg) := inb_of qs47 ⟨by decide, by decide⟩
  obtain ⟨T48, h48, X48, e48, W48, st48⟩ := stC X43 hx hZ e43 Ar47 (j := (5 : Int32)) hin47 (g := (mkF m 29 #[.val (.ref a0), .val (.int 2), .val (.ref a2)] [(.int y3), (.int 5), (.ref a0)])) rfl rfl (hb hby d2_29)
  have V48 : Arv Z h48 a0 k0 .char (25 : Int32) [(.int s0), (.int s1), (.int y0), (.int y1), (.int y2), (.int (y3.toUInt32.toUInt16.toUInt32.toInt32)), (.int s6), (.int s7), (.int s8), (.int s9), (.int s10), (.int s11), (.int s12), (.int s13), (.int s14), (.int s15), (.int s16), (.int s17), (.int s18), (.int s19), (.int s20), (.int s21), (.int s22), (.int s23), (.int s24)] (.int 0) := Arv.set Ar47 qk47 qs47 qn47 qh47 qg47 (fits_nar_char _) W48 5 rfl (Nat.le_of_ble_eq_true rfl)
  rw [own_chn hn_3] at V48
  have N48 := Fr.snoc X48 N43 p3_g
  have K49 := K44.wr W48 (Or.inl (List.mem_of_getElem? (i := 0) rfl))
  have f50 := (f45.other W48 (Ne.symm p2_ne))
  obtain ⟨cl51, Ar51, qk51, qs51, qn51, qh51, qg51⟩ := id f50
  have hin51 : ¬ ((4 : Int32) < 0 ∨ cl51.slots.size ≤ ((4 : Int32)).toNatClampNeg) := inb_of qs51 ⟨by decide, by decide⟩
  have hat51 : cl51.slots[((4 : Int32)).toNatClampNeg]? = some (.int y4) := qh51.at hin51 rfl
  obtain ⟨cl52, Ar52, qk52, qs52, qn52, qh52, qg52⟩ := id V48
  have hin52 : ¬ ((6 : Int32) < 0 ∨ cl52.slots.size ≤ ((6 : Int32)).toNatClampNeg) := inb_of qs52 ⟨by decide, by decide⟩
  obtain ⟨T53, h53, X53, e53, W53, st53⟩ := stC X48 hx hZ e48 Ar52 (j := (6 : Int32)) hin52 (g := (mkF m 37 #[.val (.ref a0), .val (.int 2), .val (.ref a2)] [(.int y4), (.int 6), (.ref a0)])) rfl rfl (hb hby d2_37)
  have V53 : Arv Z h53 a0 k0 .char (25 : Int32) [(.int s0), (.int s1), (.int y0), (.int y1), (.int y2), (.int y3), (.int (y4.toUInt32.toUInt16.toUInt32.toInt32)), (.int s7), (.int s8), (.int s9), (.int s10), (.int s11), (.int s12), (.int s13), (.int s14), (.int s15), (.int s16), (.int s17), (.int s18), (.int s19), (.int s20), (.int s21), (.int s22), (.int s23), (.int s24)] (.int 0) := Arv.set Ar52 qk52 qs52 qn52 qh52 qg52 (fits_nar_char _) W53 6 rfl (Nat.le_of_ble_eq_true rfl)
  rw [own_chn hn_4] at V53
  have N53 := Fr.snoc X53 N48 p3_g
  have K54 := K49.wr W53 (Or.inl (List.mem_of_getElem? (i := 0) rfl))
  have f55 := (f50.other W53 (Ne.symm p2_ne))
  obtain ⟨cl56, Ar56, qk56, qs56, qn56, qh56, qg56⟩ := id f55
  have hin56 : ¬ ((5 : Int32) < 0 ∨ cl56.slots.size ≤ ((5 : Int32)).toNatClampNeg) := inb_of qs56 ⟨by decide, by decide⟩
  have hat56 : cl56.slots[((5 : Int32)).toNatClampNeg]? = some (.int y5) := qh56.at hin56 rfl
  obtain ⟨cl57, Ar57, qk57, qs57, qn57, qh57, qg57⟩ := id V53
  have hin57 : ¬ ((7 : Int32) < 0 ∨ cl57.slots.size ≤ ((7 : Int32)).toNatClampNeg) := inb_of qs57 ⟨by decide, by decide⟩
  obtain ⟨T58, h58, X58, e58, W58, st58⟩ := stC X53 hx hZ e53 Ar57 (j := (7 : Int32)) hin57 (g := (mkF m 45 #[.val (.ref a0), .val (.int 2), .val (.ref a2)] [(.int y5), (.int 7), (.ref a0)])) rfl rfl (hb hby d2_45)
  have V58 : Arv Z h58 a0 k0 .char (25 : Int32) [(.int s0), (.int s1), (.int y0), (.int y1), (.int y2), (.int y3), (.int y4), (.int (y5.toUInt32.toUInt16.toUInt32.toInt32)), (.int s8), (.int s9), (.int s10), (.int s11), (.int s12), (.int s13), (.int s14), (.int s15), (.int s16), (.int s17), (.int s18), (.int s19), (.int s20), (.int s21), (.int s22), (.int s23), (.int s24)] (.int 0) := Arv.set Ar57 qk57 qs57 qn57 qh57 qg57 (fits_nar_char _) W58 7 rfl (Nat.le_of_ble_eq_true rfl)
  rw [own_chn hn_5] at V58
  have N58 := Fr.snoc X58 N53 p3_g
  have K59 := K54.wr W58 (Or.inl (List.mem_of_getElem? (i := 0) rfl))
  have f60 := (f55.other W58 (Ne.symm p2_ne))
  obtain ⟨cl61, Ar61, qk61, qs61, qn61, qh61, qg61⟩ := id f60
  have hin61 : ¬ ((6 : Int32) < 0 ∨ cl61.slots.size ≤ ((6 : Int32)).toNatClampNeg) := inb_of qs61 ⟨by decide, by decide⟩
  have hat61 : cl61.slots[((6 : Int32)).toNatClampNeg]? = some (.int y6) := qh61.at hin61 rfl
  obtain ⟨cl62, Ar62, qk62, qs62, qn62, qh62, qg62⟩ := id V58
  have hin62 : ¬ ((8 : Int32) < 0 ∨ cl62.slots.size ≤ ((8 : Int32)).toNatClampNeg) := inb_of qs62 ⟨by decide, by decide⟩
  obtain ⟨T63, h63, X63, e63, W63, st63⟩ := stC X58 hx hZ e58 Ar62 (j := (8 : Int32)) hin62 (g := (mkF m 55 #[.val (.ref a0), .val (.int 2), .val (.ref a2)] [(.int y6), (.int 8), (.ref a0)])) rfl rfl (hb hby d2_55)
  have V63 : Arv Z h63 a0 k0 .char (25 : Int32) [(.int s0), (.int s1), (.int y0), (.int y1), (.int y2), (.int y3), (.int y4), (.int y5), (.int (y6.toUInt32.toUInt16.toUInt32.toInt32)), (.int s9), (.int s10), (.int s11), (.int s12), (.int s13), (.int s14), (.int s15), (.int s16), (.int s17), (.int s18), (.int s19), (.int s20), (.int s21), (.int s22), (.int s23), (.int s24)] (.int 0) := Arv.set Ar62 qk62 qs62 qn62 qh62 qg62 (fits_nar_char _) W63 8 rfl (Nat.le_of_ble_eq_true rfl)
  rw [own_chn hn_6] at V63
  have N63 := Fr.snoc X63 N58 p3_g
  have K64 := K59.wr W63 (Or.inl (List.mem_of_getElem? (i := 0) rfl))
  have f65 := (f60.other W63 (Ne.symm p2_ne))
  obtain ⟨cl66, Ar66, qk66, qs66, qn66, qh66, qg66⟩ := id f65
  have hin66 : ¬ ((7 : Int32) < 0 ∨ cl66.slots.size ≤ ((7 : Int32)).toNatClampNeg) := inb_of qs66 ⟨by decide, by decide⟩
  have hat66 : cl66.slots[((7 : Int32)).toNatClampNeg]? = some (.int y7) := qh66.at hin66 rfl
  obtain ⟨cl67, Ar67, qk67, qs67, qn67, qh67, qg67⟩ := id V63
  have hin67 : ¬ ((9 : Int32) < 0 ∨ cl67.slots.size ≤ ((9 : Int32)).toNatClampNeg) := inb_of qs67 ⟨by decide, by decide⟩
  obtain ⟨T68, h68, X68, e68, W68, st68⟩ := stC X63 hx hZ e63 Ar67 (j := (9 : Int32)) hin67 (g := (mkF m 65 #[.val (.ref a0), .val (.int 2), .val (.ref a2)] [(.int y7), (.int 9), (.ref a0)])) rfl rfl (hb hby d2_65)
  have V68 : Arv Z h68 a0 k0 .char (25 : Int32) [(.int s0), (.int s1), (.int y0), (.int y1), (.int y2), (.int y3), (.int y4), (.int y5), (.int y6), (.int (y7.toUInt32.toUInt16.toUInt32.toInt32)), (.int s10), (.int s11), (.int s12), (.int s13), (.int s14), (.int s15), (.int s16), (.int s17), (.int s18), (.int s19), (.int s20), (.int s21), (.int s22), (.int s23), (.int s24)] (.int 0) := Arv.set Ar67 qk67 qs67 qn67 qh67 qg67 (fits_nar_char _) W68 9 rfl (Nat.le_of_ble_eq_true rfl)
  rw [own_chn hn_7] at V68
  have N68 := Fr.snoc X68 N63 p3_g
  have K69 := K64.wr W68 (Or.inl (List.mem_of_getElem? (i := 0) rfl))
  have f70 := (f65.other W68 (Ne.symm p2_ne))
  obtain ⟨cl71, Ar71, qk71, qs71, qn71, qh71, qg71⟩ := id f70
  have hin71 : ¬ ((8 : Int32) < 0 ∨ cl71.slots.size ≤ ((8 : Int32)).toNatClampNeg) := inb_of qs71 ⟨by decide, by decide⟩
  have hat71 : cl71.slots[((8 : Int32)).toNatClampNeg]? = some (.int y8) := qh71.at hin71 rfl
  obtain ⟨cl72, Ar72, qk72, qs72, qn72, qh72, qg72⟩ := id V68
  have hin72 : ¬ ((10 : Int32) < 0 ∨ cl72.slots.size ≤ ((10 : Int32)).toNatClampNeg) := inb_of qs72 ⟨by decide, by decide⟩
  obtain ⟨T73, h73, X73, e73, W73, st73⟩ := stC X68 hx hZ e68 Ar72 (j := (10 : Int32)) hin72 (g := (mkF m 75 #[.val (.ref a0), .val (.int 2), .val (.ref a2)] [(.int y8), (.int 10), (.ref a0)])) rfl rfl (hb hby d2_75)
  have V73 : Arv Z h73 a0 k0 .char (25 : Int32) [(.int s0), (.int s1), (.int y0), (.int y1), (.int y2), (.int y3), (.int y4), (.int y5), (.int y6), (.int y7), (.int (y8.toUInt32.toUInt16.toUInt32.toInt32)), (.int s11), (.int s12), (.int s13), (.int s14), (.int s15), (.int s16), (.int s17), (.int s18), (.int s19), (.int s20), (.int s21), (.int s22), (.int s23), (.int s24)] (.int 0) := Arv.set Ar72 qk72 qs72 qn72 qh72 qg72 (fits_nar_char _) W73 10 rfl (Nat.le_of_ble_eq_true rfl)
  rw [own_chn hn_8] at V73
  have N73 := Fr.snoc X73 N68 p3_g
  have K74 := K69.wr W73 (Or.inl (List.mem_of_getElem? (i := 0) rfl))
  have f75 := (f70.other W73 (Ne.symm p2_ne))
  obtain ⟨cl76, Ar76, -, qs76, qn76, -, -⟩ := id f75
  obtain ⟨cl77, Ar77, -, qs77, qn77, -, -⟩ := id f75
  obtain ⟨fs, hrL, hrun, hended, hW, hsame⟩ := X73.leave (v := some (.int 11)) (fun h => by rw [Bd.returns] at h; cases h)
  refine ⟨_, _, pre0 _ ?_, hrun, hended, _, _, rfl, ?_, ⟨_, rfl⟩, hW, hsame.mono (by decide) (by decide)⟩
  · show Steps p.tables e below (s₁.setTop (mkF m 0 #[.val (.ref a0), .val (.int 2), .val (.ref a2)] [])) _
    refine XS.aloadN X0.here hx rfl (hb hby d2_0) rfl rfl ?_
    refine XS.iloadN X0.here hx rfl (hb hby d2_1) rfl ?_
    refine XS.aloadN X0.here hx rfl (hb hby d2_2) rfl rfl ?_
    show Steps p.tables e below (s₁.setTop (mkF m 3 #[.val (.ref a0), .val (.int 2), .val (.ref a2)] [(.ref a2), (.int 2), (.ref a0)])) _
    refine XS.iconst X0.here hx rfl (hb hby d2_3) ?_
    show Steps p.tables e below (s₁.setTop (mkF m 4 #[.val (.ref a0), .val (.int 2), .val (.ref a2)] [(.int 0), (.ref a2), (.int 2), (.ref a0)])) _
    refine X0.caload hx (j := (0 : Int32)) (v := (.int y0)) (by rw [e0]; exact Ar31.1) (State.isArrayOf_alike hZ.alike Ar31.2.1) Ar31.2.2 hin31 hat31 (g := (mkF m 4 #[.val (.ref a0), .val (.int 2), .val (.ref a2)] [(.int 0), (.ref a2), (.int 2), (.ref a0)])) rfl rfl (hb hby d2_4) _ ?_
    show Steps p.tables e below (s₁.setTop (mkF m 5 #[.val (.ref a0), .val (.int 2), .val (.ref a2)] [(.int y0), (.int 2), (.ref a0)])) _
    refine st33 _ ?_
    refine XS.aloadN X33.here hx rfl (hb hby d2_6) rfl rfl ?_
    show Steps p.tables e below (T33.setTop (mkF m 7 #[.val (.ref a0), .val (.int 2), .val (.ref a2)] [(.ref a0)])) _
    refine XS.iloadN X33.here hx rfl (hb hby d2_7) rfl ?_
    refine XS.iconst X33.here hx rfl (hb hby d2_8) ?_
    show Steps p.tables e below (T33.setTop (mkF m 9 #[.val (.ref a0), .val (.int 2), .val (.ref a2)] [(.int 1), (.int 2), (.ref a0)])) _
    refine XS.iadd X33.here hx rfl (hb hby d2_9) rfl ?_
    show Steps p.tables e below (T33.setTop (mkF m 10 #[.val (.ref a0), .val (.int 2), .val (.ref a2)] [(.int ((2 : Int32) + (1 : Int32))), (.ref a0)])) _
    rw [show ((2 : Int32) + (1 : Int32)) = (3 : Int32) from by decide]
    refine XS.aloadN X33.here hx rfl (hb hby d2_10) rfl rfl ?_
    show Steps p.tables e below (T33.setTop (mkF m 11 #[.val (.ref a0), .val (.int 2), .val (.ref a2)] [(.ref a2), (.int 3), (.ref a0)])) _
    refine XS.iconst X33.here hx rfl (hb hby d2_11) ?_
    show Steps p.tables e below (T33.setTop (mkF m 12 #[.val (.ref a0), .val (.int 2), .val (.ref a2)] [(.int 1), (.ref a2), (.int 3), (.ref a0)])) _
    refine X33.caload hx (j := (1 : Int32)) (v := (.int y1)) (by rw [e33]; exact Ar36.1) (State.isArrayOf_alike hZ.alike Ar36.2.1) Ar36.2.2 hin36 hat36 (g := (mkF m 12 #[.val (.ref a0), .val (.int 2), .val (.ref a2)] [(.int 1), (.ref a2), (.int 3), (.ref a0)])) rfl rfl (hb hby d2_12) _ ?_
    show Steps p.tables e below (T33.setTop (mkF m 13 #[.val (.ref a0), .val (.int 2), .val (.ref a2)] [(.int y1), (.int 3), (.ref a0)])) _
    refine st38 _ ?_
    refine XS.aloadN X38.here hx rfl (hb hby d2_14) rfl rfl ?_
    show Steps p.tables e below (T38.setTop (mkF m 15 #[.val (.ref a0), .val (.int 2), .val (.ref a2)] [(.ref a0)])) _
    refine XS.iloadN X38.here hx rfl (hb hby d2_15) rfl ?_
    refine XS.iconst X38.here hx rfl (hb hby d2_16) ?_
    show Steps p.tables e below (T38.setTop (mkF m 17 #[.val (.ref a0), .val (.int 2), .val (.ref a2)] [(.int 2), (.int 2), (.ref a0)])) _
    refine XS.iadd X38.here hx rfl (hb hby d2_17) rfl ?_
    show Steps p.tables e below (T38.setTop (mkF m 18 #[.val (.ref a0), .val (.int 2), .val (.ref a2)] [(.int ((2 : Int32) + (2 : Int32))), (.ref a0)])) _
    rw [show ((2 : Int32) + (2 : Int32)) = (4 : Int32) from by decide]
    refine XS.aloadN X38.here hx rfl (hb hby d2_18) rfl rfl ?_
    show Steps p.tables e below (T38.setTop (mkF m 19 #[.val (.ref a0), .val (.int 2), .val (.ref a2)] [(.ref a2), (.int 4), (.ref a0)])) _
    refine XS.iconst X38.here hx rfl (hb hby d2_19) ?_
    show Steps p.tables e below (T38.setTop (mkF m 20 #[.val (.ref a0), .val (.int 2), .val (.ref a2)] [(.int 2), (.ref a2), (.int 4), (.ref a0)])) _
    refine X38.caload hx (j := (2 : Int32)) (v := (.int y2)) (by rw [e38]; exact Ar41.1) (State.isArrayOf_alike hZ.alike Ar41.2.1) Ar41.2.2 hin41 hat41 (g := (mkF m 20 #[.val (.ref a0), .val (.int 2), .val (.ref a2)] [(.int 2), (.ref a2), (.int 4), (.ref a0)])) rfl rfl (hb hby d2_20) _ ?_
    show Steps p.tables e below (T38.setTop (mkF m 21 #[.val (.ref a0), .val (.int 2), .val (.ref a2)] [(.int y2), (.int 4), (.ref a0)])) _
    refine st43 _ ?_
    refine XS.aloadN X43.here hx rfl (hb hby d2_22) rfl rfl ?_
    show Steps p.tables e below (T43.setTop (mkF m 23 #[.val (.ref a0), .val (.int 2), .val (.ref a2)] [(.ref a0)])) _
    refine XS.iloadN X43.here hx rfl (hb hby d2_23) rfl ?_
    refine XS.iconst X43.here hx rfl (hb hby d2_24) ?_
    show Steps p.tables e below (T43.setTop (mkF m 25 #[.val (.ref a0), .val (.int 2), .val (.ref a2)] [(.int 3), (.int 2), (.ref a0)])) _
    refine XS.iadd X43.here hx rfl (hb hby d2_25) rfl ?_
    show Steps p.tables e below (T43.setTop (mkF m 26 #[.val (.ref a0), .val (.int 2), .val (.ref a2)] [(.int ((2 : Int32) + (3 : Int32))), (.ref a0)])) _
    rw [show ((2 : Int32) + (3 : Int32)) = (5 : Int32) from by decide]
    refine XS.aloadN X43.here hx rfl (hb hby d2_26) rfl rfl ?_
    show Steps p.tables e below (T43.setTop (mkF m 27 #[.val (.ref a0), .val (.int 2), .val (.ref a2)] [(.ref a2), (.int 5), (.ref a0)])) _
    refine XS.iconst X43.here hx rfl (hb hby d2_27) ?_
    show Steps p.tables e below (T43.setTop (mkF m 28 #[.val (.ref a0), .val (.int 2), .val (.ref a2)] [(.int 3), (.ref a2), (.int 5), (.ref a0)])) _
    refine X43.caload hx (j := (3 : Int32)) (v := (.int y3)) (by rw [e43]; exact Ar46.1) (State.isArrayOf_alike hZ.alike Ar46.2.1) Ar46.2.2 hin46 hat46 (g := (mkF m 28 #[.val (.ref a0), .val (.int 2), .val (.ref a2)] [(.int 3), (.ref a2), (.int 5), (.ref a0)])) rfl rfl (hb hby d2_28) _ ?_
    show Steps p.tables e below (T43.setTop (mkF m 29 #[.val (.ref a0), .val (.int 2), .val (.ref a2)] [(.int y3), (.int 5), (.ref a0)])) _
    refine st48 _ ?_
    refine XS.aloadN X48.here hx rfl (hb hby d2_30) rfl rfl ?_
    show Steps p.tables e below (T48.setTop (mkF m 31 #[.val (.ref a0), .val (.int 2), .val (.ref a2)] [(.ref a0)])) _
    refine XS.iloadN X48.here hx rfl (hb hby d2_31) rfl ?_
    refine XS.iconst X48.here hx rfl (hb hby d2_32) ?_
    show Steps p.tables e below (T48.setTop (mkF m 33 #[.val (.ref a0), .val (.int 2), .val (.ref a2)] [(.int 4), (.int 2), (.ref a0)])) _
    refine XS.iadd X48.here hx rfl (hb hby d2_33) rfl ?_
    show Steps p.tables e below (T48.setTop (mkF m 34 #[.val (.ref a0), .val (.int 2), .val (.ref a2)] [(.int ((2 : Int32) + (4 : Int32))), (.ref a0)])) _
    rw [show ((2 : Int32) + (4 : Int32)) = (6 : Int32) from by decide]
    refine XS.aloadN X48.here hx rfl (hb hby d2_34) rfl rfl ?_
    show Steps p.tables e below (T48.setTop (mkF m 35 #[.val (.ref a0), .val (.int 2), .val (.ref a2)] [(.ref a2), (.int 6), (.ref a0)])) _
    refine XS.iconst X48.here hx rfl (hb hby d2_35) ?_
    show Steps p.tables e below (T48.setTop (mkF m 36 #[.val (.ref a0), .val (.int 2), .val (.ref a2)] [(.int 4), (.ref a2), (.int 6), (.ref a0)])) _
    refine X48.caload hx (j := (4 : Int32)) (v := (.int y4)) (by rw [e48]; exact Ar51.1) (State.isArrayOf_alike hZ.alike Ar51.2.1) Ar51.2.2 hin51 hat51 (g := (mkF m 36 #[.val (.ref a0), .val (.int 2), .val (.ref a2)] [(.int 4), (.ref a2), (.int 6), (.ref a0)])) rfl rfl (hb hby d2_36) _ ?_
    show Steps p.tables e below (T48.setTop (mkF m 37 #[.val (.ref a0), .val (.int 2), .val (.ref a2)] [(.int y4), (.int 6), (.ref a0)])) _
    refine st53 _ ?_
    refine XS.aloadN X53.here hx rfl (hb hby d2_38) rfl rfl ?_
    show Steps p.tables e below (T53.setTop (mkF m 39 #[.val (.ref a0), .val (.int 2), .val (.ref a2)] [(.ref a0)])) _
    refine XS.iloadN X53.here hx rfl (hb hby d2_39) rfl ?_
    refine XS.iconst X53.here hx rfl (hb hby d2_40) ?_
    show Steps p.tables e below (T53.setTop (mkF m 41 #[.val (.ref a0), .val (.int 2), .val (.ref a2)] [(.int 5), (.int 2), (.ref a0)])) _
    refine XS.iadd X53.here hx rfl (hb hby d2_41) rfl ?_
    show Steps p.tables e below (T53.setTop (mkF m 42 #[.val (.ref a0), .val (.int 2), .val (.ref a2)] [(.int ((2 : Int32) + (5 : Int32))), (.ref a0)])) _
    rw [show ((2 : Int32) + (5 : Int32)) = (7 : Int32) from by decide]
    refine XS.aloadN X53.here hx rfl (hb hby d2_42) rfl rfl ?_
    show Steps p.tables e below (T53.setTop (mkF m 43 #[.val (.ref a0), .val (.int 2), .val (.ref a2)] [(.ref a2), (.int 7), (.ref a0)])) _
    refine XS.iconst X53.here hx rfl (hb hby d2_43) ?_
    show Steps p.tables e below (T53.setTop (mkF m 44 #[.val (.ref a0), .val (.int 2), .val (.ref a2)] [(.int 5), (.ref a2), (.int 7), (.ref a0)])) _
    refine X53.caload hx (j := (5 : Int32)) (v := (.int y5)) (by rw [e53]; exact Ar56.1) (State.isArrayOf_alike hZ.alike Ar56.2.1) Ar56.2.2 hin56 hat56 (g := (mkF m 44 #[.val (.ref a0), .val (.int 2), .val (.ref a2)] [(.int 5), (.ref a2), (.int 7), (.ref a0)])) rfl rfl (hb hby d2_44) _ ?_
    show Steps p.tables e below (T53.setTop (mkF m 45 #[.val (.ref a0), .val (.int 2), .val (.ref a2)] [(.int y5), (.int 7), (.ref a0)])) _
    refine st58 _ ?_
    refine XS.aloadN X58.here hx rfl (hb hby d2_46) rfl rfl ?_
    show Steps p.tables e below (T58.setTop (mkF m 47 #[.val (.ref a0), .val (.int 2), .val (.ref a2)] [(.ref a0)])) _
    refine XS.iloadN X58.here hx rfl (hb hby d2_47) rfl ?_
    refine XS.bipush X58.here hx rfl (hb hby d2_48) ?_
    show Steps p.tables e below (T58.setTop (mkF m 50 #[.val (.ref a0), .val (.int 2), .val (.ref a2)] [(.int 6), (.int 2), (.ref a0)])) _
    refine XS.iadd X58.here hx rfl (hb hby d2_50) rfl ?_
    show Steps p.tables e below (T58.setTop (mkF m 51 #[.val (.ref a0), .val (.int 2), .val (.ref a2)] [(.int ((2 : Int32) + (6 : Int32))), (.ref a0)])) _
    rw [show ((2 : Int32) + (6 : Int32)) = (8 : Int32) from by decide]
    refine XS.aloadN X58.here hx rfl (hb hby d2_51) rfl rfl ?_
    show Steps p.tables e below (T58.setTop (mkF m 52 #[.val (.ref a0), .val (.int 2), .val (.ref a2)] [(.ref a2), (.int 8), (.ref a0)])) _
    refine XS.bipush X58.here hx rfl (hb hby d2_52) ?_
    show Steps p.tables e below (T58.setTop (mkF m 54 #[.val (.ref a0), .val (.int 2), .val (.ref a2)] [(.int 6), (.ref a2), (.int 8), (.ref a0)])) _
    refine X58.caload hx (j := (6 : Int32)) (v := (.int y6)) (by rw [e58]; exact Ar61.1) (State.isArrayOf_alike hZ.alike Ar61.2.1) Ar61.2.2 hin61 hat61 (g := (mkF m 54 #[.val (.ref a0), .val (.int 2), .val (.ref a2)] [(.int 6), (.ref a2), (.int 8), (.ref a0)])) rfl rfl (hb hby d2_54) _ ?_
    show Steps p.tables e below (T58.setTop (mkF m 55 #[.val (.ref a0), .val (.int 2), .val (.ref a2)] [(.int y6), (.int 8), (.ref a0)])) _
    refine st63 _ ?_
    refine XS.aloadN X63.here hx rfl (hb hby d2_56) rfl rfl ?_
    show Steps p.tables e below (T63.setTop (mkF m 57 #[.val (.ref a0), .val (.int 2), .val (.ref a2)] [(.ref a0)])) _
    refine XS.iloadN X63.here hx rfl (hb hby d2_57) rfl ?_
    refine XS.bipush X63.here hx rfl (hb hby d2_58) ?_
    show Steps p.tables e below (T63.setTop (mkF m 60 #[.val (.ref a0), .val (.int 2), .val (.ref a2)] [(.int 7), (.int 2), (.ref a0)])) _
    refine XS.iadd X63.here hx rfl (hb hby d2_60) rfl ?_
    show Steps p.tables e below (T63.setTop (mkF m 61 #[.val (.ref a0), .val (.int 2), .val (.ref a2)] [(.int ((2 : Int32) + (7 : Int32))), (.ref a0)])) _
    rw [show ((2 : Int32) + (7 : Int32)) = (9 : Int32) from by decide]
    refine XS.aloadN X63.here hx rfl (hb hby d2_61) rfl rfl ?_
    show Steps p.tables e below (T63.setTop (mkF m 62 #[.val (.ref a0), .val (.int 2), .val (.ref a2)] [(.ref a2), (.int 9), (.ref a0)])) _
    refine XS.bipush X63.here hx rfl (hb hby d2_62) ?_
    show Steps p.tables e below (T63.setTop (mkF m 64 #[.val (.ref a0), .val (.int 2), .val (.ref a2)] [(.int 7), (.ref a2), (.int 9), (.ref a0)])) _
    refine X63.caload hx (j := (7 : Int32)) (v := (.int y7)) (by rw [e63]; exact Ar66.1) (State.isArrayOf_alike hZ.alike Ar66.2.1) Ar66.2.2 hin66 hat66 (g := (mkF m 64 #[.val (.ref a0), .val (.int 2), .val (.ref a2)] [(.int 7), (.ref a2), (.int 9), (.ref a0)])) rfl rfl (hb hby d2_64) _ ?_
    show Steps p.tables e below (T63.setTop (mkF m 65 #[.val (.ref a0), .val (.int 2), .val (.ref a2)] [(.int y7), (.int 9), (.ref a0)])) _
    refine st68 _ ?_
    refine XS.aloadN X68.here hx rfl (hb hby d2_66) rfl rfl ?_
    show Steps p.tables e below (T68.setTop (mkF m 67 #[.val (.ref a0), .val (.int 2), .val (.ref a2)] [(.ref a0)])) _
    refine XS.iloadN X68.here hx rfl (hb hby d2_67) rfl ?_
    refine XS.bipush X68.here hx rfl (hb hby d2_68) ?_
    show Steps p.tables e below (T68.setTop (mkF m 70 #[.val (.ref a0), .val (.int 2), .val (.ref a2)] [(.int 8), (.int 2), (.ref a0)])) _
    refine XS.iadd X68.here hx rfl (hb hby d2_70) rfl ?_
    show Steps p.tables e below (T68.setTop (mkF m 71 #[.val (.ref a0), .val (.int 2), .val (.ref a2)] [(.int ((2 : Int32) + (8 : Int32))), (.ref a0)])) _
    rw [show ((2 : Int32) + (8 : Int32)) = (10 : Int32) from by decide]
    refine XS.aloadN X68.here hx rfl (hb hby d2_71) rfl rfl ?_
    show Steps p.tables e below (T68.setTop (mkF m 72 #[.val (.ref a0), .val (.int 2), .val (.ref a2)] [(.ref a2), (.int 10), (.ref a0)])) _
    refine XS.bipush X68.here hx rfl (hb hby d2_72) ?_
    show Steps p.tables e below (T68.setTop (mkF m 74 #[.val (.ref a0), .val (.int 2), .val (.ref a2)] [(.int 8), (.ref a2), (.int 10), (.ref a0)])) _
    refine X68.caload hx (j := (8 : Int32)) (v := (.int y8)) (by rw [e68]; exact Ar71.1) (State.isArrayOf_alike hZ.alike Ar71.2.1) Ar71.2.2 hin71 hat71 (g := (mkF m 74 #[.val (.ref a0), .val (.int 2), .val (.ref a2)] [(.int 8), (.ref a2), (.int 10), (.ref a0)])) rfl rfl (hb hby d2_74) _ ?_
    show Steps p.tables e below (T68.setTop (mkF m 75 #[.val (.ref a0), .val (.int 2), .val (.ref a2)] [(.int y8), (.int 10), (.ref a0)])) _
    refine st73 _ ?_
    refine XS.aloadN X73.here hx rfl (hb hby d2_76) rfl rfl ?_
    show Steps p.tables e below (T73.setTop (mkF m 77 #[.val (.ref a0), .val (.int 2), .val (.ref a2)] [(.ref a2)])) _
    refine X73.arraylength hx (by rw [e73]; exact Ar76.1) (State.isArrayOf_alike hZ.alike Ar76.2.1) (g := (mkF m 77 #[.val (.ref a0), .val (.int 2), .val (.ref a2)] [(.ref a2)])) rfl rfl (hb hby d2_77) _ ?_
    rw [len_of qs76 qn76]
    refine XS.bipush X73.here hx rfl (hb hby d2_78) ?_
    show Steps p.tables e below (T73.setTop (mkF m 80 #[.val (.ref a0), .val (.int 2), .val (.ref a2)] [(.int 10), (.int 9)])) _
    refine XS.icmpYes X73.here hx rfl (pc0 := 80) (pc' := 93) rfl (hb hby d2_80) rfl (feq (by decide : ¬ ((9 : Int32) = (10 : Int32)))).2 (by decide) (by decide) ?_
    refine XS.iloadN X73.here hx rfl (hb hby d2_93) rfl ?_
    show Steps p.tables e below (T73.setTop (mkF m 94 #[.val (.ref a0), .val (.int 2), .val (.ref a2)] [(.int 2)])) _
    refine XS.aloadN X73.here hx rfl (hb hby d2_94) rfl rfl ?_
    show Steps p.tables e below (T73.setTop (mkF m 95 #[.val (.ref a0), .val (.int 2), .val (.ref a2)] [(.ref a2), (.int 2)])) _
    refine X73.arraylength hx (by rw [e73]; exact Ar77.1) (State.isArrayOf_alike hZ.alike Ar77.2.1) (g := (mkF m 95 #[.val (.ref a0), .val (.int 2), .val (.ref a2)] [(.ref a2), (.int 2)])) rfl rfl (hb hby d2_95) _ ?_
    rw [len_of qs77 qn77]
    show Steps p.tables e below (T73.setTop (mkF m 96 #[.val (.ref a0), .val (.int 2), .val (.ref a2)] [(.int 9), (.int 2)])) _
    refine XS.iadd X73.here hx rfl (hb hby d2_96) rfl ?_
    show Steps p.tables e below (T73.setTop (mkF m 97 #[.val (.ref a0), .val (.int 2), .val (.ref a2)] [(.int ((2 : Int32) + (9 : Int32)))])) _
    rw [show ((2 : Int32) + (9 : Int32)) = (11 : Int32) from by decide]
    show Steps p.tables e below (T73.setTop (mkF m 97 #[.val (.ref a0), .val (.int 2), .val (.ref a2)] [(.int 11)])) _
    exact retI X73 hx Bd.returns (hb hby d2_97) hrL
  · show Q_place_2_9 _ _ _ _ _ _ _ _ _ _ _ _ _ _ _ _ _ _ _ _ _ _ _ _ _ _ _ _ _ _ _ _ _ _ _ _ _ _ _ _ _ _  T73.heap _
    rw [e73]
    exact ⟨rfl, N73, K74, V73⟩
theorem d2_83 : decode method_4_code 83 = .ok (.aload_n 0, 1) := by decide +kernel
theorem d2_84 : decode method_4_code 84 = .ok (.iload_n 1, 1) := by decide +kernel
theorem d2_85 : decode method_4_code 85 = .ok (.bipush 9, 2) := by decide +kernel
theorem d2_87 : decode method_4_code 87 = .ok (.iadd, 1) := by decide +kernel
theorem d2_88 : decode method_4_code 88 = .ok (.aload_n 2, 1) := by decide +kernel
theorem d2_89 : decode method_4_code 89 = .ok (.bipush 9, 2) := by decide +kernel
theorem d2_91 : decode method_4_code 91 = .ok (.caload, 1) := by decide +kernel
theorem d2_92 : decode method_4_code 92 = .ok (.castore, 1) := by decide +kernel
theorem ef_place_13_10 (m : MethodId) (a0 : Addr) (a2 : Addr) : entryFrame m #[(.ref a0), (.int 13), (.ref a2)] 3 = mkF m 0 #[.val (.ref a0), .val (.int 13), .val (.ref a2)] [] := by first | (simp [entryFrame, mkF, argsToLocals, Value.category]; done) | rfl
def Q_place_13_10 (Z : State) (a0 : Addr) (a2 : Addr) (s0 : Int32) (s1 : Int32) (s2 : Int32) (s3 : Int32) (s4 : Int32) (s5 : Int32) (s6 : Int32) (s7 : Int32) (s8 : Int32) (s9 : Int32) (s10 : Int32) (s11 : Int32) (s12 : Int32) (s13 : Int32) (s14 : Int32) (s15 : Int32) (s16 : Int32) (s17 : Int32) (s18 : Int32) (s19 : Int32) (s20 : Int32) (s21 : Int32) (s22 : Int32) (s23 : Int32) (s24 : Int32) (y0 : Int32) (y1 : Int32) (y2 : Int32) (y3 : Int32) (y4 : Int32) (y5 : Int32) (y6 : Int32) (y7 : Int32) (y8 : Int32) (y9 : Int32) (k0 : ClassId) (k2 : ClassId) (h0 : Heap) (n0 : Nat) (v : Option Value) (h : Heap) (L : List Loc) : Prop := v = some (.int 23) ∧ Fr n0 L ∧ Keep h0 h [a0] ∧ Arv Z h a0 k0 .char (25 : Int32) [(.int s0), (.int s1), (.int s2), (.int s3), (.int s4), (.int s5), (.int s6), (.int s7), (.int s8), (.int s9), (.int s10), (.int s11), (.int s12), (.int y0), (.int y1), (.int y2), (.int y3), (.int y4), (.int y5), (.int y6), (.int y7), (.int y8), (.int y9), (.int s23), (.int s24)] (.int 0)
set_option maxRecDepth 65536 in
set_option maxHeartbeats 40000000 in
theorem place_13_10 (l : Launch) (Z : State) (av0 : Array Value) (hw : ∀ d ∈ tables_1, d.before av0 Z = true) (ws : List Jvm.Cond) (a0 : Addr) (a2 : Addr) (s0 : Int32) (s1 : Int32) (s2 : Int32) (s3 : Int32) (s4 : Int32) (s5 : Int32) (s6 : Int32) (s7 : Int32) (s8 : Int32) (s9 : Int32) (s10 : Int32) (s11 : Int32) (s12 : Int32) (s13 : Int32) (s14 : Int32) (s15 : Int32) (s16 : Int32) (s17 : Int32) (s18 : Int32) (s19 : Int32) (s20 : Int32) (s21 : Int32) (s22 : Int32) (s23 : Int32) (s24 : Int32) (y0 : Int32) (y1 : Int32) (y2 : Int32) (y3 : Int32) (y4 : Int32) (y5 : Int32) (y6 : Int32) (y7 : Int32) (y8 : Int32) (y9 : Int32) (k0 : ClassId) (k2 : ClassId) (h0 : Heap) (n0 : Nat) (Z0 : n0 ≤ h0.size) (p0_A : Arv Z h0 a0 k0 .char (25 : Int32) [(.int s0), (.int s1), (.int s2), (.int s3), (.int s4), (.int s5), (.int s6), (.int s7), (.int s8), (.int s9), (.int s10), (.int s11), (.int s12), (.int s13), (.int s14), (.int s15), (.int s16), (.int s17), (.int s18), (.int s19), (.int s20), (.int s21), (.int s22), (.int s23), (.int s24)] (.int 0)) (p1_A : Arv Z h0 a2 k2 .char (10 : Int32) [(.int y0), (.int y1), (.int y2), (.int y3), (.int y4), (.int y5), (.int y6), (.int y7), (.int y8), (.int y9)] (.int 0)) (p2_ne : a0 ≠ a2) (p3_g : n0 ≤ a0) (hn_0 : Ch y0) (hn_1 : Ch y1) (hn_2 : Ch y2) (hn_3 : Ch y3) (hn_4 : Ch y4) (hn_5 : Ch y5) (hn_6 : Ch y6) (hn_7 : Ch y7) (hn_8 : Ch y8) (hn_9 : Ch y9) :
    MetFree l (⟨"com/example/ulinzi/ulinzi/model/OwnerFilterWrittenInPinLaw", "place", "([CI[C)I"⟩ : MethodName) (head1 (Jvm.Cond.code (⟨"com/example/ulinzi/ulinzi/model/OwnerFilterWrittenInPinLaw", "place", "([CI[C)I"⟩ : MethodName) method_4_code 3 (some .int) :: ws) ({ frames := 0, cells := 0, slots := 0, locals := 0 } : Room)) (fun a U => a = #[(.ref a0), (.int 13), (.ref a2)] ∧ Z.Warmed39 U.vm ∧ U.heap = h0) (fun _ _ _ _ _ => True) (fun _ U o U' => ∃ v L, o = .returned v ∧ Q_place_13_10 Z a0 a2 s0 s1 s2 s3 s4 s5 s6 s7 s8 s9 s10 s11 s12 s13 s14 s15 s16 s17 s18 s19 s20 s21 s22 s23 s24 y0 y1 y2 y3 y4 y5 y6 y7 y8 y9 k0 k2 h0 n0 v U'.heap L ∧ FrameEnd U o U' L ({ frames := 0, cells := 0, slots := 0, locals := 0 } : Room).cells ({ frames := 0, cells := 0, slots := 0, locals := 0 } : Room).slots) := by
  refine MetFree.of_bodySF (plainFor_of_name pn_com_example_ulinzi_ulinzi_model_OwnerFilterWrittenInPinLaw) hisR ?_
  intro p e s m args below meth c s₁ Bd hml0 hP hK
  obtain ⟨rfl, hZ, hh⟩ := hP
  have hx := Bd.exec
  have hby := Bd.bytes
  have hml : c.maxLocals = 3 := hml0
  have hown : s.vm.findClass "com/example/ulinzi/ulinzi/model/OwnerFilterWrittenInPinLaw" = some m.cls := findClass_of_methodNamed Bd.named
  have hnm := (name_of_methodNamed Bd.named Bd.method).1
  have X0 : Stand p l e ({ frames := 0, cells := 0, slots := 0, locals := 0 } : Room) s m #[(.ref a0), (.int 13), (.ref a2)] below meth c s₁ [] 0 0 := Stand.of_body Bd
  have e0 : s₁.heap = h0 := by rw [← hh, Bd.state]; rfl
  have N0 := Fr.nil n0
  have pre0 : ∀ tz_, Steps p.tables e below (s₁.setTop (mkF m 0 #[.val (.ref a0), .val (.int 13), .val (.ref a2)] [])) tz_ → Steps p.tables e below (s₁.setTop (entryFrame m #[(.ref a0), (.int 13), (.ref a2)] 3)) tz_ := fun tz_ kz_ => castTop (ef_place_13_10 m a0 a2) kz_
  have K0 : Keep h0 h0 [a0] := Keep.refl h0 [a0]
  obtain ⟨cl31, Ar31, qk31, qs31, qn31, qh31, qg31⟩ := id p1_A
  have hin31 : ¬ ((0 : Int32) < 0 ∨ cl31.slots.size ≤ ((0 : Int32)).toNatClampNeg) := inb_of qs31 ⟨by decide, by decide⟩
  have hat31 : cl31.slots[((0 : Int32)).toNatClampNeg]? = some (.int y0) := qh31.at hin31 rfl
  obtain ⟨cl32, Ar32, qk32, qs32, qn32, qh32, qg32⟩ := id p0_A
  have hin32 : ¬ ((13 : Int32) < 0 ∨ cl32.slots.size ≤ ((13 : Int32)).toNatClampNeg) := inb_of qs32 ⟨by decide, by decide⟩
  obtain ⟨T33, h33, X33, e33, W33, st33⟩ := stC X0 hx hZ e0 Ar32 (j := (13 : Int32)) hin32 (g := (mkF m 5 #[.val (.ref a0), .val (.int 13), .val (.ref a2)] [(.int y0), (.int 13), (.ref a0)])) rfl rfl (hb hby d2_5)
  have V33 : Arv Z h33 a0 k0 .char (25 : Int32) [(.int s0), (.int s1), (.int s2), (.int s3), (.int s4), (.int s5), (.int s6), (.int s7), (.int s8), (.int s9), (.int s10), (.int s11), (.int s12), (.int (y0.toUInt32.toUInt16.toUInt32.toInt32)), (.int s14), (.int s15), (.int s16), (.int s17), (.int s18), (.int s19), (.int s20), (.int s21), (.int s22), (.int s23), (.int s24)] (.int 0) := Arv.set Ar32 qk32 qs32 qn32 qh32 qg32 (fits_nar_char _) W33 13 rfl (Nat.le_of_ble_eq_true rfl)
  rw [own_chn hn_0] at V33
  have N33 := Fr.snoc X33 N0 p3_g
  have K34 := K0.wr W33 (Or.inl (List.mem_of_getElem? (i := 0) rfl))
  have f35 := (p1_A.other W33 (Ne.symm p2_ne))
  obtain ⟨cl36, Ar36, qk36, qs36, qn36, qh36, qg36⟩ := id f35
  have hin36 : ¬ ((1 : Int32) < 0 ∨ cl36.slots.size ≤ ((1 : Int32)).toNatClampNeg) := inb_of qs36 ⟨by decide, by decide⟩
  have hat36 : cl36.slots[((1 : Int32)).toNatClampNeg]? = some (.int y1) := qh36.at hin36 rfl
  obtain ⟨cl37, Ar37, qk37, qs37, qn37, qh37, qg37⟩ := id V33
  have hin37 : ¬ ((14 : Int32) < 0 ∨ cl37.slots.size ≤ ((14 : Int32)).toNatClampNeg) := inb_of qs37 ⟨by decide, by decide⟩
  obtain ⟨T38, h38, X38, e38, W38, st38⟩ := stC X33 hx hZ e33 Ar37 (j := (14 : Int32)) hin37 (g := (mkF m 13 #[.val (.ref a0), .val (.int 13), .val (.ref a2)] [(.int y1), (.int 14), (.ref a0)])) rfl rfl (hb hby d2_13)
  have V38 : Arv Z h38 a0 k0 .char (25 : Int32) [(.int s0), (.int s1), (.int s2), (.int s3), (.int s4), (.int s5), (.int s6), (.int s7), (.int s8), (.int s9), (.int s10), (.int s11), (.int s12), (.int y0), (.int (y1.toUInt32.toUInt16.toUInt32.toInt32)), (.int s15), (.int s16), (.int s17), (.int s18), (.int s19), (.int s20), (.int s21), (.int s22), (.int s23), (.int s24)] (.int 0) := Arv.set Ar37 qk37 qs37 qn37 qh37 qg37 (fits_nar_char _) W38 14 rfl (Nat.le_of_ble_eq_true rfl)
  rw [own_chn hn_1] at V38
  have N38 := Fr.snoc X38 N33 p3_g
  have K39 := K34.wr W38 (Or.inl (List.mem_of_getElem? (i := 0) rfl))
  have f40 := (f35.other W38 (Ne.symm p2_ne))
  obtain ⟨cl41, Ar41, qk41, qs41, qn41, qh41, qg41⟩ := id f40
  have hin41 : ¬ ((2 : Int32) < 0 ∨ cl41.slots.size ≤ ((2 : Int32)).toNatClampNeg) := inb_of qs41 ⟨by decide, by decide⟩
  have hat41 : cl41.slots[((2 : Int32)).toNatClampNeg]? = some (.int y2) := qh41.at hin41 rfl
  obtain ⟨cl42, Ar42, qk42, qs42, qn42, qh42, qg42⟩ := id V38
  have hin42 : ¬ ((15 : Int32) < 0 ∨ cl42.slots.size ≤ ((15 : Int32)).toNatClampNeg) := inb_of qs42 ⟨by decide, by decide⟩
  obtain ⟨T43, h43, X43, e43, W43, st43⟩ := stC X38 hx hZ e38 Ar42 (j := (15 : Int32)) hin42 (g := (mkF m 21 #[.val (.ref a0), .val (.int 13), .val (.ref a2)] [(.int y2), (.int 15), (.ref a0)])) rfl rfl (hb hby d2_21)
  have V43 : Arv Z h43 a0 k0 .char (25 : Int32) [(.int s0), (.int s1), (.int s2), (.int s3), (.int s4), (.int s5), (.int s6), (.int s7), (.int s8), (.int s9), (.int s10), (.int s11), (.int s12), (.int y0), (.int y1), (.int (y2.toUInt32.toUInt16.toUInt32.toInt32)), (.int s16), (.int s17), (.int s18), (.int s19), (.int s20), (.int s21), (.int s22), (.int s23), (.int s24)] (.int 0) := Arv.set Ar42 qk42 qs42 qn42 qh42 qg42 (fits_nar_char _) W43 15 rfl (Nat.le_of_ble_eq_true rfl)
  rw [own_chn hn_2] at V43
  have N43 := Fr.snoc X43 N38 p3_g
  have K44 := K39.wr W43 (Or.inl (List.mem_of_getElem? (i := 0) rfl))
  have f45 := (f40.other W43 (Ne.symm p2_ne))
  obtain ⟨cl46, Ar46, qk46, qs46, qn46, qh46, qg46⟩ := id f45
  have hin46 : ¬ ((3 : Int32) < 0 ∨ cl46.slots.size ≤ ((3 : Int32)).toNatClampNeg) := inb_of qs46 ⟨by decide, by decide⟩
  have hat46 : cl46.slots[((3 : Int32)).toNatClampNeg]? = some (.int y3) := qh46.at hin46 rfl
  obtain ⟨cl47, Ar47, qk47, qs47, qn47, qh47, qg47⟩ := id V43
  have hin47 : ¬ ((16 : Int32) < 0 ∨ cl47.slots.size ≤ ((16 : Int32)).toNatClampNeg) := inb_of qs47 ⟨by decide, by decide⟩
  obtain ⟨T48, h48, X48, e48, W48, st48⟩ := stC X43 hx hZ e43 Ar47 (j := (16 : Int32)) hin47 (g := (mkF m 29 #[.val (.ref a0), .val (.int 13), .val (.ref a2)] [(.int y3), (.int 16), (.ref a0)])) rfl rfl (hb hby d2_29)
  have V48 : Arv Z h48 a0 k0 .char (25 : Int32) [(.int s0), (.int s1), (.int s2), (.int s3), (.int s4), (.int s5), (.int s6), (.int s7), (.int s8), (.int s9), (.int s10), (.int s11), (.int s12), (.int y0), (.int y1), (.int y2), (.int (y3.toUInt32.toUInt16.toUInt32.toInt32)), (.int s17), (.int s18), (.int s19), (.int s20), (.int s21), (.int s22), (.int s23), (.int s24)] (.int 0) := Arv.set Ar47 qk47 qs47 qn47 qh47 qg47 (fits_nar_char _) W48 16 rfl (Nat.le_of_ble_eq_true rfl)
  rw [own_chn hn_3] at V48
  have N48 := Fr.snoc X48 N43 p3_g
  have K49 := K44.wr W48 (Or.inl (List.mem_of_getElem? (i := 0) rfl))
  have f50 := (f45.other W48 (Ne.symm p2_ne))
  obtain ⟨cl51, Ar51, qk51, qs51, qn51, qh51, qg51⟩ := id f50
  have hin51 : ¬ ((4 : Int32) < 0 ∨ cl51.slots.size ≤ ((4 : Int32)).toNatClampNeg) := inb_of qs51 ⟨by decide, by decide⟩
  have hat51 : cl51.slots[((4 : Int32)).toNatClampNeg]? = some (.int y4) := qh51.at hin51 rfl
  obtain ⟨cl52, Ar52, qk52, qs52, qn52, qh52, qg52⟩ := id V48
  have hin52 : ¬ ((17 : Int32) < 0 ∨ cl52.slots.size ≤ ((17 : Int32)).toNatClampNeg) := inb_of qs52 ⟨by decide, by decide⟩
  obtain ⟨T53, h53, X53, e53, W53, st53⟩ := stC X48 hx hZ e48 Ar52 (j := (17 : Int32)) hin52 (g := (mkF m 37 #[.val (.ref a0), .val (.int 13), .val (.ref a2)] [(.int y4), (.int 17), (.ref a0)])) rfl rfl (hb hby d2_37)
  have V53 : Arv Z h53 a0 k0 .char (25 : Int32) [(.int s0), (.int s1), (.int s2), (.int s3), (.int s4), (.int s5), (.int s6), (.int s7), (.int s8), (.int s9), (.int s10), (.int s11), (.int s12), (.int y0), (.int y1), (.int y2), (.int y3), (.int (y4.toUInt32.toUInt16.toUInt32.toInt32)), (.int s18), (.int s19), (.int s20), (.int s21), (.int s22), (.int s23), (.int s24)] (.int 0) := Arv.set Ar52 qk52 qs52 qn52 qh52 qg52 (fits_nar_char _) W53 17 rfl (Nat.le_of_ble_eq_true rfl)
  rw [own_chn hn_4] at V53
  have N53 := Fr.snoc X53 N48 p3_g
  have K54 := K49.wr W53 (Or.inl (List.mem_of_getElem? (i := 0) rfl))
  have f55 := (f50.other W53 (Ne.symm p2_ne))
  obtain ⟨cl56, Ar56, qk56, qs56, qn56, qh56, qg56⟩ := id f55
  have hin56 : ¬ ((5 : Int32) < 0 ∨ cl56.slots.size ≤ ((5 : Int32)).toNatClampNeg) := inb_of qs56 ⟨by decide, by decide⟩
  have hat56 : cl56.slots[((5 : Int32)).toNatClampNeg]? = some (.int y5) := qh56.at hin56 rfl
  obtain ⟨cl57, Ar57, qk57, qs57, qn57, qh57, qg57⟩ := id V53
  have hin57 : ¬ ((18 : Int32) < 0 ∨ cl57.slots.size ≤ ((18 : Int32)).toNatClampNeg) := inb_of qs57 ⟨by decide, by decide⟩
  obtain ⟨T58, h58, X58, e58, W58, st58⟩ := stC X53 hx hZ e53 Ar57 (j := (18 : Int32)) hin57 (g := (mkF m 45 #[.val (.ref a0), .val (.int 13), .val (.ref a2)] [(.int y5), (.int 18), (.ref a0)])) rfl rfl (hb hby d2_45)
  have V58 : Arv Z h58 a0 k0 .char (25 : Int32) [(.int s0), (.int s1), (.int s2), (.int s3), (.int s4), (.int s5), (.int s6), (.int s7), (.int s8), (.int s9), (.int s10), (.int s11), (.int s12), (.int y0), (.int y1), (.int y2), (.int y3), (.int y4), (.int (y5.toUInt32.toUInt16.toUInt32.toInt32)), (.int s19), (.int s20), (.int s21), (.int s22), (.int s23), (.int s24)] (.int 0) := Arv.set Ar57 qk57 qs57 qn57 qh57 qg57 (fits_nar_char _) W58 18 rfl (Nat.le_of_ble_eq_true rfl)
  rw [own_chn hn_5] at V58
  have N58 := Fr.snoc X58 N53 p3_g
  have K59 := K54.wr W58 (Or.inl (List.mem_of_getElem? (i := 0) rfl))
  have f60 := (f55.other W58 (Ne.symm p2_ne))
  obtain ⟨cl61, Ar61, qk61, qs61, qn61, qh61, qg61⟩ := id f60
  have hin61 : ¬ ((6 : Int32) < 0 ∨ cl61.slots.size ≤ ((6 : Int32)).toNatClampNeg) := inb_of qs61 ⟨by decide, by decide⟩
  have hat61 : cl61.slots[((6 : Int32)).toNatClampNeg]? = some (.int y6) := qh61.at hin61 rfl
  obtain ⟨cl62, Ar62, qk62, qs62, qn62, qh62, qg62⟩ := id V58
  have hin62 : ¬ ((19 : Int32) < 0 ∨ cl62.slots.size ≤ ((19 : Int32)).toNatClampNeg) := inb_of qs62 ⟨by decide, by decide⟩
  obtain ⟨T63, h63, X63, e63, W63, st63⟩ := stC X58 hx hZ e58 Ar62 (j := (19 : Int32)) hin62 (g := (mkF m 55 #[.val (.ref a0), .val (.int 13), .val (.ref a2)] [(.int y6), (.int 19), (.ref a0)])) rfl rfl (hb hby d2_55)
  have V63 : Arv Z h63 a0 k0 .char (25 : Int32) [(.int s0), (.int s1), (.int s2), (.int s3), (.int s4), (.int s5), (.int s6), (.int s7), (.int s8), (.int s9), (.int s10), (.int s11), (.int s12), (.int y0), (.int y1), (.int y2), (.int y3), (.int y4), (.int y5), (.int (y6.toUInt32.toUInt16.toUInt32.toInt32)), (.int s20), (.int s21), (.int s22), (.int s23), (.int s24)] (.int 0) := Arv.set Ar62 qk62 qs62 qn62 qh62 qg62 (fits_nar_char _) W63 19 rfl (Nat.le_of_ble_eq_true rfl)
  rw [own_chn hn_6] at V63
  have N63 := Fr.snoc X63 N58 p3_g
  have K64 := K59.wr W63 (Or.inl (List.mem_of_getElem? (i := 0) rfl))
  have f65 := (f60.other W63 (Ne.symm p2_ne))
  obtain ⟨cl66, Ar66, qk66, qs66, qn66, qh66, qg66⟩ := id f65
  have hin66 : ¬ ((7 : Int32) < 0 ∨ cl66.slots.size ≤ ((7 : Int32)).toNatClampNeg) := inb_of qs66 ⟨by decide, by decide⟩
  have hat66 : cl66.slots[((7 : Int32)).toNatClampNeg]? = some (.int y7) := qh66.at hin66 rfl
  obtain ⟨cl67, Ar67, qk67, qs67, qn67, qh67, qg67⟩ := id V63
  have hin67 : ¬ ((20 : Int32) < 0 ∨ cl67.slots.size ≤ ((20 : Int32)).toNatClampNeg) := inb_of qs67 ⟨by decide, by decide⟩
  obtain ⟨T68, h68, X68, e68, W68, st68⟩ := stC X63 hx hZ e63 Ar67 (j := (20 : Int32)) hin67 (g := (mkF m 65 #[.val (.ref a0), .val (.int 13), .val (.ref a2)] [(.int y7), (.int 20), (.ref a0)])) rfl rfl (hb hby d2_65)
  have V68 : Arv Z h68 a0 k0 .char (25 : Int32) [(.int s0), (.int s1), (.int s2), (.int s3), (.int s4), (.int s5), (.int s6), (.int s7), (.int s8), (.int s9), (.int s10), (.int s11), (.int s12), (.int y0), (.int y1), (.int y2), (.int y3), (.int y4), (.int y5), (.int y6), (.int (y7.toUInt32.toUInt16.toUInt32.toInt32)), (.int s21), (.int s22), (.int s23), (.int s24)] (.int 0) := Arv.set Ar67 qk67 qs67 qn67 qh67 qg67 (fits_nar_char _) W68 20 rfl (Nat.le_of_ble_eq_true rfl)
  rw [own_chn hn_7] at V68
  have N68 := Fr.snoc X68 N63 p3_g
  have K69 := K64.wr W68 (Or.inl (List.mem_of_getElem? (i := 0) rfl))
  have f70 := (f65.other W68 (Ne.symm p2_ne))
  obtain ⟨cl71, Ar71, qk71, qs71, qn71, qh71, qg71⟩ := id f70
  have hin71 : ¬ ((8 : Int32) < 0 ∨ cl71.slots.size ≤ ((8 : Int32)).toNatClampNeg) := inb_of qs71 ⟨by decide, by decide⟩
  have hat71 : cl71.slots[((8 : Int32)).toNatClampNeg]? = some (.int y8) := qh71.at hin71 rfl
  obtain ⟨cl72, Ar72, qk72, qs72, qn72, qh72, qg72⟩ := id V68
  have hin72 : ¬ ((21 : Int32) < 0 ∨ cl72.slots.size ≤ ((21 : Int32)).toNatClampNeg) := inb_of qs72 ⟨by decide, by decide⟩
  obtain ⟨T73, h73, X73, e73, W73, st73⟩ := stC X68 hx hZ e68 Ar72 (j := (21 : Int32)) hin72 (g := (mkF m 75 #[.val (.ref a0), .val (.int 13), .val (.ref a2)] [(.int y8), (.int 21), (.ref a0)])) rfl rfl (hb hby d2_75)
  have V73 : Arv Z h73 a0 k0 .char (25 : Int32) [(.int s0), (.int s1), (.int s2), (.int s3), (.int s4), (.int s5), (.int s6), (.int s7), (.int s8), (.int s9), (.int s10), (.int s11), (.int s12), (.int y0), (.int y1), (.int y2), (.int y3), (.int y4), (.int y5), (.int y6), (.int y7), (.int (y8.toUInt32.toUInt16.toUInt32.toInt32)), (.int s22), (.int s23), (.int s24)] (.int 0) := Arv.set Ar72 qk72 qs72 qn72 qh72 qg72 (fits_nar_char _) W73 21 rfl (Nat.le_of_ble_eq_true rfl)
  rw [own_chn hn_8] at V73
  have N73 := Fr.snoc X73 N68 p3_g
  have K74 := K69.wr W73 (Or.inl (List.mem_of_getElem? (i := 0) rfl))
  have f75 := (f70.other W73 (Ne.symm p2_ne))
  obtain ⟨cl76, Ar76, -, qs76, qn76, -, -⟩ := id f75
  obtain ⟨cl77, Ar77, qk77, qs77, qn77, qh77, qg77⟩ := id f75
  have hin77 : ¬ ((9 : Int32) < 0 ∨ cl77.slots.size ≤ ((9 : Int32)).toNatClampNeg) := inb_of qs77 ⟨by decide, by decide⟩
  have hat77 : cl77.slots[((9 : Int32)).toNatClampNeg]? = some (.int y9) := qh77.at hin77 rfl
  obtain ⟨cl78, Ar78, qk78, qs78, qn78, qh78, qg78⟩ := id V73
  have hin78 : ¬ ((22 : Int32) < 0 ∨ cl78.slots.size ≤ ((22 : Int32)).toNatClampNeg) := inb_of qs78 ⟨by decide, by decide⟩
  obtain ⟨T79, h79, X79, e79, W79, st79⟩ := stC X73 hx hZ e73 Ar78 (j := (22 : Int32)) hin78 (g := (mkF m 92 #[.val (.ref a0), .val (.int 13), .val (.ref a2)] [(.int y9), (.int 22), (.ref a0)])) rfl rfl (hb hby d2_92)
  have V79 : Arv Z h79 a0 k0 .char (25 : Int32) [(.int s0), (.int s1), (.int s2), (.int s3), (.int s4), (.int s5), (.int s6), (.int s7), (.int s8), (.int s9), (.int s10), (.int s11), (.int s12), (.int y0), (.int y1), (.int y2), (.int y3), (.int y4), (.int y5), (.int y6), (.int y7), (.int y8), (.int (y9.toUInt32.toUInt16.toUInt32.toInt32)), (.int s23), (.int s24)] (.int 0) := Arv.set Ar78 qk78 qs78 qn78 qh78 qg78 (fits_nar_char _) W79 22 rfl (Nat.le_of_ble_eq_true rfl)
  rw [own_chn hn_9] at V79
  have N79 := Fr.snoc X79 N73 p3_g
  have K80 := K74.wr W79 (Or.inl (List.mem_of_getElem? (i := 0) rfl))
  have f81 := (f75.other W79 (Ne.symm p2_ne))
  obtain ⟨cl82, Ar82, -, qs82, qn82, -, -⟩ := id f81
  obtain ⟨fs, hrL, hrun, hended, hW, hsame⟩ := X79.leave (v := some (.int 23)) (fun h => by rw [Bd.returns] at h; cases h)
  refine ⟨_, _, pre0 _ ?_, hrun, hended, _, _, rfl, ?_, ⟨_, rfl⟩, hW, hsame.mono (by decide) (by decide)⟩
  · show Steps p.tables e below (s₁.setTop (mkF m 0 #[.val (.ref a0), .val (.int 13), .val (.ref a2)] [])) _
    refine XS.aloadN X0.here hx rfl (hb hby d2_0) rfl rfl ?_
    refine XS.iloadN X0.here hx rfl (hb hby d2_1) rfl ?_
    refine XS.aloadN X0.here hx rfl (hb hby d2_2) rfl rfl ?_
    show Steps p.tables e below (s₁.setTop (mkF m 3 #[.val (.ref a0), .val (.int 13), .val (.ref a2)] [(.ref a2), (.int 13), (.ref a0)])) _
    refine XS.iconst X0.here hx rfl (hb hby d2_3) ?_
    show Steps p.tables e below (s₁.setTop (mkF m 4 #[.val (.ref a0), .val (.int 13), .val (.ref a2)] [(.int 0), (.ref a2), (.int 13), (.ref a0)])) _
    refine X0.caload hx (j := (0 : Int32)) (v := (.int y0)) (by rw [e0]; exact Ar31.1) (State.isArrayOf_alike hZ.alike Ar31.2.1) Ar31.2.2 hin31 hat31 (g := (mkF m 4 #[.val (.ref a0), .val (.int 13), .val (.ref a2)] [(.int 0), (.ref a2), (.int 13), (.ref a0)])) rfl rfl (hb hby d2_4) _ ?_
    show Steps p.tables e below (s₁.setTop (mkF m 5 #[.val (.ref a0), .val (.int 13), .val (.ref a2)] [(.int y0), (.int 13), (.ref a0)])) _
    refine st33 _ ?_
    refine XS.aloadN X33.here hx rfl (hb hby d2_6) rfl rfl ?_
    show Steps p.tables e below (T33.setTop (mkF m 7 #[.val (.ref a0), .val (.int 13), .val (.ref a2)] [(.ref a0)])) _
    refine XS.iloadN X33.here hx rfl (hb hby d2_7) rfl ?_
    refine XS.iconst X33.here hx rfl (hb hby d2_8) ?_
    show Steps p.tables e below (T33.setTop (mkF m 9 #[.val (.ref a0), .val (.int 13), .val (.ref a2)] [(.int 1), (.int 13), (.ref a0)])) _
    refine XS.iadd X33.here hx rfl (hb hby d2_9) rfl ?_
    show Steps p.tables e below (T33.setTop (mkF m 10 #[.val (.ref a0), .val (.int 13), .val (.ref a2)] [(.int ((13 : Int32) + (1 : Int32))), (.ref a0)])) _
    rw [show ((13 : Int32) + (1 : Int32)) = (14 : Int32) from by decide]
    refine XS.aloadN X33.here hx rfl (hb hby d2_10) rfl rfl ?_
    show Steps p.tables e below (T33.setTop (mkF m 11 #[.val (.ref a0), .val (.int 13), .val (.ref a2)] [(.ref a2), (.int 14), (.ref a0)])) _
    refine XS.iconst X33.here hx rfl (hb hby d2_11) ?_
    show Steps p.tables e below (T33.setTop (mkF m 12 #[.val (.ref a0), .val (.int 13), .val (.ref a2)] [(.int 1), (.ref a2), (.int 14), (.ref a0)])) _
    refine X33.caload hx (j := (1 : Int32)) (v := (.int y1)) (by rw [e33]; exact Ar36.1) (State.isArrayOf_alike hZ.alike Ar36.2.1) Ar36.2.2 hin36 hat36 (g := (mkF m 12 #[.val (.ref a0), .val (.int 13), .val (.ref a2)] [(.int 1), (.ref a2), (.int 14), (.ref a0)])) rfl rfl (hb hby d2_12) _ ?_
    show Steps p.tables e below (T33.setTop (mkF m 13 #[.val (.ref a0), .val (.int 13), .val (.ref a2)] [(.int y1), (.int 14), (.ref a0)])) _
    refine st38 _ ?_
    refine XS.aloadN X38.here hx rfl (hb hby d2_14) rfl rfl ?_
    show Steps p.tables e below (T38.setTop (mkF m 15 #[.val (.ref a0), .val (.int 13), .val (.ref a2)] [(.ref a0)])) _
    refine XS.iloadN X38.here hx rfl (hb hby d2_15) rfl ?_
    refine XS.iconst X38.here hx rfl (hb hby d2_16) ?_
    show Steps p.tables e below (T38.setTop (mkF m 17 #[.val (.ref a0), .val (.int 13), .val (.ref a2)] [(.int 2), (.int 13), (.ref a0)])) _
    refine XS.iadd X38.here hx rfl (hb hby d2_17) rfl ?_
    show Steps p.tables e below (T38.setTop (mkF m 18 #[.val (.ref a0), .val (.int 13), .val (.ref a2)] [(.int ((13 : Int32) + (2 : Int32))), (.ref a0)])) _
    rw [show ((13 : Int32) + (2 : Int32)) = (15 : Int32) from by decide]
    refine XS.aloadN X38.here hx rfl (hb hby d2_18) rfl rfl ?_
    show Steps p.tables e below (T38.setTop (mkF m 19 #[.val (.ref a0), .val (.int 13), .val (.ref a2)] [(.ref a2), (.int 15), (.ref a0)])) _
    refine XS.iconst X38.here hx rfl (hb hby d2_19) ?_
    show Steps p.tables e below (T38.setTop (mkF m 20 #[.val (.ref a0), .val (.int 13), .val (.ref a2)] [(.int 2), (.ref a2), (.int 15), (.ref a0)])) _
    refine X38.caload hx (j := (2 : Int32)) (v := (.int y2)) (by rw [e38]; exact Ar41.1) (State.isArrayOf_alike hZ.alike Ar41.2.1) Ar41.2.2 hin41 hat41 (g := (mkF m 20 #[.val (.ref a0), .val (.int 13), .val (.ref a2)] [(.int 2), (.ref a2), (.int 15), (.ref a0)])) rfl rfl (hb hby d2_20) _ ?_
    show Steps p.tables e below (T38.setTop (mkF m 21 #[.val (.ref a0), .val (.int 13), .val (.ref a2)] [(.int y2), (.int 15), (.ref a0)])) _
    refine st43 _ ?_
    refine XS.aloadN X43.here hx rfl (hb hby d2_22) rfl rfl ?_
    show Steps p.tables e below (T43.setTop (mkF m 23 #[.val (.ref a0), .val (.int 13), .val (.ref a2)] [(.ref a0)])) _
    refine XS.iloadN X43.here hx rfl (hb hby d2_23) rfl ?_
    refine XS.iconst X43.here hx rfl (hb hby d2_24) ?_
    show Steps p.tables e below (T43.setTop (mkF m 25 #[.val (.ref a0), .val (.int 13), .val (.ref a2)] [(.int 3), (.int 13), (.ref a0)])) _
    refine XS.iadd X43.here hx rfl (hb hby d2_25) rfl ?_
    show Steps p.tables e below (T43.setTop (mkF m 26 #[.val (.ref a0), .val (.int 13), .val (.ref a2)] [(.int ((13 : Int32) + (3 : Int32))), (.ref a0)])) _
    rw [show ((13 : Int32) + (3 : Int32)) = (16 : Int32) from by decide]
    refine XS.aloadN X43.here hx rfl (hb hby d2_26) rfl rfl ?_
    show Steps p.tables e below (T43.setTop (mkF m 27 #[.val (.ref a0), .val (.int 13), .val (.ref a2)] [(.ref a2), (.int 16), (.ref a0)])) _
    refine XS.iconst X43.here hx rfl (hb hby d2_27) ?_
    show Steps p.tables e below (T43.setTop (mkF m 28 #[.val (.ref a0), .val (.int 13), .val (.ref a2)] [(.int 3), (.ref a2), (.int 16), (.ref a0)])) _
    refine X43.caload hx (j := (3 : Int32)) (v := (.int y3)) (by rw [e43]; exact Ar46.1) (State.isArrayOf_alike hZ.alike Ar46.2.1) Ar46.2.2 hin46 hat46 (g := (mkF m 28 #[.val (.ref a0), .val (.int 13), .val (.ref a2)] [(.int 3), (.ref a2), (.int 16), (.ref a0)])) rfl rfl (hb hby d2_28) _ ?_
    show Steps p.tables e below (T43.setTop (mkF m 29 #[.val (.ref a0), .val (.int 13), .val (.ref a2)] [(.int y3), (.int 16), (.ref a0)])) _
    refine st48 _ ?_
    refine XS.aloadN X48.here hx rfl (hb hby d2_30) rfl rfl ?_
    show Steps p.tables e below (T48.setTop (mkF m 31 #[.val (.ref a0), .val (.int 13), .val (.ref a2)] [(.ref a0)])) _
    refine XS.iloadN X48.here hx rfl (hb hby d2_31) rfl ?_
    refine XS.iconst X48.here hx rfl (hb hby d2_32) ?_
    show Steps p.tables e below (T48.setTop (mkF m 33 #[.val (.ref a0), .val (.int 13), .val (.ref a2)] [(.int 4), (.int 13), (.ref a0)])) _
    refine XS.iadd X48.here hx rfl (hb hby d2_33) rfl ?_
    show Steps p.tables e below (T48.setTop (mkF m 34 #[.val (.ref a0), .val (.int 13), .val (.ref a2)] [(.int ((13 : Int32) + (4 : Int32))), (.ref a0)])) _
    rw [show ((13 : Int32) + (4 : Int32)) = (17 : Int32) from by decide]
    refine XS.aloadN X48.here hx rfl (hb hby d2_34) rfl rfl ?_
    show Steps p.tables e below (T48.setTop (mkF m 35 #[.val (.ref a0), .val (.int 13), .val (.ref a2)] [(.ref a2), (.int 17), (.ref a0)])) _
    refine XS.iconst X48.here hx rfl (hb hby d2_35) ?_
    show Steps p.tables e below (T48.setTop (mkF m 36 #[.val (.ref a0), .val (.int 13), .val (.ref a2)] [(.int 4), (.ref a2), (.int 17), (.ref a0)])) _
    refine X48.caload hx (j := (4 : Int32)) (v := (.int y4)) (by rw [e48]; exact Ar51.1) (State.isArrayOf_alike hZ.alike Ar51.2.1) Ar51.2.2 hin51 hat51 (g := (mkF m 36 #[.val (.ref a0), .val (.int 13), .val (.ref a2)] [(.int 4), (.ref a2), (.int 17), (.ref a0)])) rfl rfl (hb hby d2_36) _ ?_
    show Steps p.tables e below (T48.setTop (mkF m 37 #[.val (.ref a0), .val (.int 13), .val (.ref a2)] [(.int y4), (.int 17), (.ref a0)])) _
    refine st53 _ ?_
    refine XS.aloadN X53.here hx rfl (hb hby d2_38) rfl rfl ?_
    show Steps p.tables e below (T53.setTop (mkF m 39 #[.val (.ref a0), .val (.int 13), .val (.ref a2)] [(.ref a0)])) _
    refine XS.iloadN X53.here hx rfl (hb hby d2_39) rfl ?_
    refine XS.iconst X53.here hx rfl (hb hby d2_40) ?_
    show Steps p.tables e below (T53.setTop (mkF m 41 #[.val (.ref a0), .val (.int 13), .val (.ref a2)] [(.int 5), (.int 13), (.ref a0)])) _
    refine XS.iadd X53.here hx rfl (hb hby d2_41) rfl ?_
    show Steps p.tables e below (T53.setTop (mkF m 42 #[.val (.ref a0), .val (.int 13), .val (.ref a2)] [(.int ((13 : Int32) + (5 : Int32))), (.ref a0)])) _
    rw [show ((13 : Int32) + (5 : Int32)) = (18 : Int32) from by decide]
    refine XS.aloadN X53.here hx rfl (hb hby d2_42) rfl rfl ?_
    show Steps p.tables e below (T53.setTop (mkF m 43 #[.val (.ref a0), .val (.int 13), .val (.ref a2)] [(.ref a2), (.int 18), (.ref a0)])) _
    refine XS.iconst X53.here hx rfl (hb hby d2_43) ?_
    show Steps p.tables e below (T53.setTop (mkF m 44 #[.val (.ref a0), .val (.int 13), .val (.ref a2)] [(.int 5), (.ref a2), (.int 18), (.ref a0)])) _
    refine X53.caload hx (j := (5 : Int32)) (v := (.int y5)) (by rw [e53]; exact Ar56.1) (State.isArrayOf_alike hZ.alike Ar56.2.1) Ar56.2.2 hin56 hat56 (g := (mkF m 44 #[.val (.ref a0), .val (.int 13), .val (.ref a2)] [(.int 5), (.ref a2), (.int 18), (.ref a0)])) rfl rfl (hb hby d2_44) _ ?_
    show Steps p.tables e below (T53.setTop (mkF m 45 #[.val (.ref a0), .val (.int 13), .val (.ref a2)] [(.int y5), (.int 18), (.ref a0)])) _
    refine st58 _ ?_
    refine XS.aloadN X58.here hx rfl (hb hby d2_46) rfl rfl ?_
    show Steps p.tables e below (T58.setTop (mkF m 47 #[.val (.ref a0), .val (.int 13), .val (.ref a2)] [(.ref a0)])) _
    refine XS.iloadN X58.here hx rfl (hb hby d2_47) rfl ?_
    refine XS.bipush X58.here hx rfl (hb hby d2_48) ?_
    show Steps p.tables e below (T58.setTop (mkF m 50 #[.val (.ref a0), .val (.int 13), .val (.ref a2)] [(.int 6), (.int 13), (.ref a0)])) _
    refine XS.iadd X58.here hx rfl (hb hby d2_50) rfl ?_
    show Steps p.tables e below (T58.setTop (mkF m 51 #[.val (.ref a0), .val (.int 13), .val (.ref a2)] [(.int ((13 : Int32) + (6 : Int32))), (.ref a0)])) _
    rw [show ((13 : Int32) + (6 : Int32)) = (19 : Int32) from by decide]
    refine XS.aloadN X58.here hx rfl (hb hby d2_51) rfl rfl ?_
    show Steps p.tables e below (T58.setTop (mkF m 52 #[.val (.ref a0), .val (.int 13), .val (.ref a2)] [(.ref a2), (.int 19), (.ref a0)])) _
    refine XS.bipush X58.here hx rfl (hb hby d2_52) ?_
    show Steps p.tables e below (T58.setTop (mkF m 54 #[.val (.ref a0), .val (.int 13), .val (.ref a2)] [(.int 6), (.ref a2), (.int 19), (.ref a0)])) _
    refine X58.caload hx (j := (6 : Int32)) (v := (.int y6)) (by rw [e58]; exact Ar61.1) (State.isArrayOf_alike hZ.alike Ar61.2.1) Ar61.2.2 hin61 hat61 (g := (mkF m 54 #[.val (.ref a0), .val (.int 13), .val (.ref a2)] [(.int 6), (.ref a2), (.int 19), (.ref a0)])) rfl rfl (hb hby d2_54) _ ?_
    show Steps p.tables e below (T58.setTop (mkF m 55 #[.val (.ref a0), .val (.int 13), .val (.ref a2)] [(.int y6), (.int 19), (.ref a0)])) _
    refine st63 _ ?_
    refine XS.aloadN X63.here hx rfl (hb hby d2_56) rfl rfl ?_
    show Steps p.tables e below (T63.setTop (mkF m 57 #[.val (.ref a0), .val (.int 13), .val (.ref a2)] [(.ref a0)])) _
    refine XS.iloadN X63.here hx rfl (hb hby d2_57) rfl ?_
    refine XS.bipush X63.here hx rfl (hb hby d2_58) ?_
    show Steps p.tables e below (T63.setTop (mkF m 60 #[.val (.ref a0), .val (.int 13), .val (.ref a2)] [(.int 7), (.int 13), (.ref a0)])) _
    refine XS.iadd X63.here hx rfl (hb hby d2_60) rfl ?_
    show Steps p.tables e below (T63.setTop (mkF m 61 #[.val (.ref a0), .val (.int 13), .val (.ref a2)] [(.int ((13 : Int32) + (7 : Int32))), (.ref a0)])) _
    rw [show ((13 : Int32) + (7 : Int32)) = (20 : Int32) from by decide]
    refine XS.aloadN X63.here hx rfl (hb hby d2_61) rfl rfl ?_
    show Steps p.tables e below (T63.setTop (mkF m 62 #[.val (.ref a0), .val (.int 13), .val (.ref a2)] [(.ref a2), (.int 20), (.ref a0)])) _
    refine XS.bipush X63.here hx rfl (hb hby d2_62) ?_
    show Steps p.tables e below (T63.setTop (mkF m 64 #[.val (.ref a0), .val (.int 13), .val (.ref a2)] [(.int 7), (.ref a2), (.int 20), (.ref a0)])) _
    refine X63.caload hx (j := (7 : Int32)) (v := (.int y7)) (by rw [e63]; exact Ar66.1) (State.isArrayOf_alike hZ.alike Ar66.2.1) Ar66.2.2 hin66 hat66 (g := (mkF m 64 #[.val (.ref a0), .val (.int 13), .val (.ref a2)] [(.int 7), (.ref a2), (.int 20), (.ref a0)])) rfl rfl (hb hby d2_64) _ ?_
    show Steps p.tables e below (T63.setTop (mkF m 65 #[.val (.ref a0), .val (.int 13), .val (.ref a2)] [(.int y7), (.int 20), (.ref a0)])) _
    refine st68 _ ?_
    refine XS.aloadN X68.here hx rfl (hb hby d2_66) rfl rfl ?_
    show Steps p.tables e below (T68.setTop (mkF m 67 #[.val (.ref a0), .val (.int 13), .val (.ref a2)] [(.ref a0)])) _
    refine XS.iloadN X68.here hx rfl (hb hby d2_67) rfl ?_
    refine XS.bipush X68.here hx rfl (hb hby d2_68) ?_
    show Steps p.tables e below (T68.setTop (mkF m 70 #[.val (.ref a0), .val (.int 13), .val (.ref a2)] [(.int 8), (.int 13), (.ref a0)])) _
    refine XS.iadd X68.here hx rfl (hb hby d2_70) rfl ?_
    show Steps p.tables e below (T68.setTop (mkF m 71 #[.val (.ref a0), .val (.int 13), .val (.ref a2)] [(.int ((13 : Int32) + (8 : Int32))), (.ref a0)])) _
    rw [show ((13 : Int32) + (8 : Int32)) = (21 : Int32) from by decide]
    refine XS.aloadN X68.here hx rfl (hb hby d2_71) rfl rfl ?_
    show Steps p.tables e below (T68.setTop (mkF m 72 #[.val (.ref a0), .val (.int 13), .val (.ref a2)] [(.ref a2), (.int 21), (.ref a0)])) _
    refine XS.bipush X68.here hx rfl (hb hby d2_72) ?_
    show Steps p.tables e below (T68.setTop (mkF m 74 #[.val (.ref a0), .val (.int 13), .val (.ref a2)] [(.int 8), (.ref a2), (.int 21), (.ref a0)])) _
    refine X68.caload hx (j := (8 : Int32)) (v := (.int y8)) (by rw [e68]; exact Ar71.1) (State.isArrayOf_alike hZ.alike Ar71.2.1) Ar71.2.2 hin71 hat71 (g := (mkF m 74 #[.val (.ref a0), .val (.int 13), .val (.ref a2)] [(.int 8), (.ref a2), (.int 21), (.ref a0)])) rfl rfl (hb hby d2_74) _ ?_
    show Steps p.tables e below (T68.setTop (mkF m 75 #[.val (.ref a0), .val (.int 13), .val (.ref a2)] [(.int y8), (.int 21), (.ref a0)])) _
    refine st73 _ ?_
    refine XS.aloadN X73.here hx rfl (hb hby d2_76) rfl rfl ?_
    show Steps p.tables e below (T73.setTop (mkF m 77 #[.val (.ref a0), .val (.int 13), .val (.ref a2)] [(.ref a2)])) _
    refine X73.arraylength hx (by rw [e73]; exact Ar76.1) (State.isArrayOf_alike hZ.alike Ar76.2.1) (g := (mkF m 77 #[.val (.ref a0), .val (.int 13), .val (.ref a2)] [(.ref a2)])) rfl rfl (hb hby d2_77) _ ?_
    rw [len_of qs76 qn76]
    refine XS.bipush X73.here hx rfl (hb hby d2_78) ?_
    show Steps p.tables e below (T73.setTop (mkF m 80 #[.val (.ref a0), .val (.int 13), .val (.ref a2)] [(.int 10), (.int 10)])) _
    refine XS.icmpNo X73.here hx rfl (hb hby d2_80) rfl (teq (by decide : (10 : Int32) = (10 : Int32))).2 ?_
    refine XS.aloadN X73.here hx rfl (hb hby d2_83) rfl rfl ?_
    show Steps p.tables e below (T73.setTop (mkF m 84 #[.val (.ref a0), .val (.int 13), .val (.ref a2)] [(.ref a0)])) _
    refine XS.iloadN X73.here hx rfl (hb hby d2_84) rfl ?_
    refine XS.bipush X73.here hx rfl (hb hby d2_85) ?_
    show Steps p.tables e below (T73.setTop (mkF m 87 #[.val (.ref a0), .val (.int 13), .val (.ref a2)] [(.int 9), (.int 13), (.ref a0)])) _
    refine XS.iadd X73.here hx rfl (hb hby d2_87) rfl ?_
    show Steps p.tables e below (T73.setTop (mkF m 88 #[.val (.ref a0), .val (.int 13), .val (.ref a2)] [(.int ((13 : Int32) + (9 : Int32))), (.ref a0)])) _
    rw [show ((13 : Int32) + (9 : Int32)) = (22 : Int32) from by decide]
    refine XS.aloadN X73.here hx rfl (hb hby d2_88) rfl rfl ?_
    show Steps p.tables e below (T73.setTop (mkF m 89 #[.val (.ref a0), .val (.int 13), .val (.ref a2)] [(.ref a2), (.int 22), (.ref a0)])) _
    refine XS.bipush X73.here hx rfl (hb hby d2_89) ?_
    show Steps p.tables e below (T73.setTop (mkF m 91 #[.val (.ref a0), .val (.int 13), .val (.ref a2)] [(.int 9), (.ref a2), (.int 22), (.ref a0)])) _
    refine X73.caload hx (j := (9 : Int32)) (v := (.int y9)) (by rw [e73]; exact Ar77.1) (State.isArrayOf_alike hZ.alike Ar77.2.1) Ar77.2.2 hin77 hat77 (g := (mkF m 91 #[.val (.ref a0), .val (.int 13), .val (.ref a2)] [(.int 9), (.ref a2), (.int 22), (.ref a0)])) rfl rfl (hb hby d2_91) _ ?_
    show Steps p.tables e below (T73.setTop (mkF m 92 #[.val (.ref a0), .val (.int 13), .val (.ref a2)] [(.int y9), (.int 22), (.ref a0)])) _
    refine st79 _ ?_
    refine XS.iloadN X79.here hx rfl (hb hby d2_93) rfl ?_
    show Steps p.tables e below (T79.setTop (mkF m 94 #[.val (.ref a0), .val (.int 13), .val (.ref a2)] [(.int 13)])) _
    refine XS.aloadN X79.here hx rfl (hb hby d2_94) rfl rfl ?_
    show Steps p.tables e below (T79.setTop (mkF m 95 #[.val (.ref a0), .val (.int 13), .val (.ref a2)] [(.ref a2), (.int 13)])) _
    refine X79.arraylength hx (by rw [e79]; exact Ar82.1) (State.isArrayOf_alike hZ.alike Ar82.2.1) (g := (mkF m 95 #[.val (.ref a0), .val (.int 13), .val (.ref a2)] [(.ref a2), (.int 13)])) rfl rfl (hb hby d2_95) _ ?_
    rw [len_of qs82 qn82]
    show Steps p.tables e below (T79.setTop (mkF m 96 #[.val (.ref a0), .val (.int 13), .val (.ref a2)] [(.int 10), (.int 13)])) _
    refine XS.iadd X79.here hx rfl (hb hby d2_96) rfl ?_
    show Steps p.tables e below (T79.setTop (mkF m 97 #[.val (.ref a0), .val (.int 13), .val (.ref a2)] [(.int ((13 : Int32) + (10 : Int32)))])) _
    rw [show ((13 : Int32) + (10 : Int32)) = (23 : Int32) from by decide]
    show Steps p.tables e below (T79.setTop (mkF m 97 #[.val (.ref a0), .val (.int 13), .val (.ref a2)] [(.int 23)])) _
    exact retI X79 hx Bd.returns (hb hby d2_97) hrL
  · show Q_place_13_10 _ _ _ _ _ _ _ _ _ _ _ _ _ _ _ _ _ _ _ _ _ _ _ _ _ _ _ _ _ _ _ _ _ _ _ _ _ _ _ _ _ _ _  T79.heap _
    rw [e79]
    exact ⟨rfl, N79, K80, V79⟩
theorem ef_place_2_10 (m : MethodId) (a0 : Addr) (a2 : Addr) : entryFrame m #[(.ref a0), (.int 2), (.ref a2)] 3 = mkF m 0 #[.val (.ref a0), .val (.int 2), .val (.ref a2)] [] := by first | (simp [entryFrame, mkF, argsToLocals, Value.category]; done) | rfl
def Q_place_2_10 (Z : State) (a0 : Addr) (a2 : Addr) (s0 : Int32) (s1 : Int32) (s2 : Int32) (s3 : Int32) (s4 : Int32) (s5 : Int32) (s6 : Int32) (s7 : Int32) (s8 : Int32) (s9 : Int32) (s10 : Int32) (s11 : Int32) (s12 : Int32) (s13 : Int32) (s14 : Int32) (s15 : Int32) (s16 : Int32) (s17 : Int32) (s18 : Int32) (s19 : Int32) (s20 : Int32) (s21 : Int32) (s22 : Int32) (s23 : Int32) (s24 : Int32) (y0 : Int32) (y1 : Int32) (y2 : Int32) (y3 : Int32) (y4 : Int32) (y5 : Int32) (y6 : Int32) (y7 : Int32) (y8 : Int32) (y9 : Int32) (k0 : ClassId) (k2 : ClassId) (h0 : Heap) (n0 : Nat) (v : Option Value) (h : Heap) (L : List Loc) : Prop := v = some (.int 12) ∧ Fr n0 L ∧ Keep h0 h [a0] ∧ Arv Z h a0 k0 .char (25 : Int32) [(.int s0), (.int s1), (.int y0), (.int y1), (.int y2), (.int y3), (.int y4), (.int y5), (.int y6), (.int y7), (.int y8), (.int y9), (.int s12), (.int s13), (.int s14), (.int s15), (.int s16), (.int s17), (.int s18), (.int s19), (.int s20), (.int s21), (.int s22), (.int s23), (.int s24)] (.int 0)
set_option maxRecDepth 65536 in
set_option maxHeartbeats 40000000 in
theorem place_2_10 (l : Launch) (Z : State) (av0 : Array Value) (hw : ∀ d ∈ tables_1, d.before av0 Z = true) (ws : List Jvm.Cond) (a0 : Addr) (a2 : Addr) (s0 : Int32) (s1 : Int32) (s2 : Int32) (s3 : Int32) (s4 : Int32) (s5 : Int32) (s6 : Int32) (s7 : Int32) (s8 : Int32) (s9 : Int32) (s10 : Int32) (s11 : Int32) (s12 : Int32) (s13 : Int32) (s14 : Int32) (s15 : Int32) (s16 : Int32) (s17 : Int32) (s18 : Int32) (s19 : Int32) (s20 : Int32) (s21 : Int32) (s22 : Int32) (s23 : Int32) (s24 : Int32) (y0 : Int32) (y1 : Int32) (y2 : Int32) (y3 : Int32) (y4 : Int32) (y5 : Int32) (y6 : Int32) (y7 : Int32) (y8 : Int32) (y9 : Int32) (k0 : ClassId) (k2 : ClassId) (h0 : Heap) (n0 : Nat) (Z0 : n0 ≤ h0.size) (p0_A : Arv Z h0 a0 k0 .char (25 : Int32) [(.int s0), (.int s1), (.int s2), (.int s3), (.int s4), (.int s5), (.int s6), (.int s7), (.int s8), (.int s9), (.int s10), (.int s11), (.int s12), (.int s13), (.int s14), (.int s15), (.int s16), (.int s17), (.int s18), (.int s19), (.int s20), (.int s21), (.int s22), (.int s23), (.int s24)] (.int 0)) (p1_A : Arv Z h0 a2 k2 .char (10 : Int32) [(.int y0), (.int y1), (.int y2), (.int y3), (.int y4), (.int y5), (.int y6), (.int y7), (.int y8), (.int y9)] (.int 0)) (p2_ne : a0 ≠ a2) (p3_g : n0 ≤ a0) (hn_0 : Ch y0) (hn_1 : Ch y1) (hn_2 : Ch y2) (hn_3 : Ch y3) (hn_4 : Ch y4) (hn_5 : Ch y5) (hn_6 : Ch y6) (hn_7 : Ch y7) (hn_8 : Ch y8) (hn_9 : Ch y9) :
    MetFree l (⟨"com/example/ulinzi/ulinzi/model/OwnerFilterWrittenInPinLaw", "place", "([CI[C)I"⟩ : MethodName) (head1 (Jvm.Cond.code (⟨"com/example/ulinzi/ulinzi/model/OwnerFilterWrittenInPinLaw", "place", "([CI[C)I"⟩ : MethodName) method_4_code 3 (some .int) :: ws) ({ frames := 0, cells := 0, slots := 0, locals := 0 } : Room)) (fun a U => a = #[(.ref a0), (.int 2), (.ref a2)] ∧ Z.Warmed39 U.vm ∧ U.heap = h0) (fun _ _ _ _ _ => True) (fun _ U o U' => ∃ v L, o = .returned v ∧ Q_place_2_10 Z a0 a2 s0 s1 s2 s3 s4 s5 s6 s7 s8 s9 s10 s11 s12 s13 s14 s15 s16 s17 s18 s19 s20 s21 s22 s23 s24 y0 y1 y2 y3 y4 y5 y6 y7 y8 y9 k0 k2 h0 n0 v U'.heap L ∧ FrameEnd U o U' L ({ frames := 0, cells := 0, slots := 0, locals := 0 } : Room).cells ({ frames := 0, cells := 0, slots := 0, locals := 0 } : Room).slots) := by
  refine MetFree.of_bodySF (plainFor_of_name pn_com_example_ulinzi_ulinzi_model_OwnerFilterWrittenInPinLaw) hisR ?_
  intro p e s m args below meth c s₁ Bd hml0 hP hK
  obtain ⟨rfl, hZ, hh⟩ := hP
  have hx := Bd.exec
  have hby := Bd.bytes
  have hml : c.maxLocals = 3 := hml0
  have hown : s.vm.findClass "com/example/ulinzi/ulinzi/model/OwnerFilterWrittenInPinLaw" = some m.cls := findClass_of_methodNamed Bd.named
  have hnm := (name_of_methodNamed Bd.named Bd.method).1
  have X0 : Stand p l e ({ frames := 0, cells := 0, slots := 0, locals := 0 } : Room) s m #[(.ref a0), (.int 2), (.ref a2)] below meth c s₁ [] 0 0 := Stand.of_body Bd
  have e0 : s₁.heap = h0 := by rw [← hh, Bd.state]; rfl
  have N0 := Fr.nil n0
  have pre0 : ∀ tz_, Steps p.tables e below (s₁.setTop (mkF m 0 #[.val (.ref a0), .val (.int 2), .val (.ref a2)] [])) tz_ → Steps p.tables e below (s₁.setTop (entryFrame m #[(.ref a0), (.int 2), (.ref a2)] 3)) tz_ := fun tz_ kz_ => castTop (ef_place_2_10 m a0 a2) kz_
  have K0 : Keep h0 h0 [a0] := Keep.refl h0 [a0]
  obtain ⟨cl31, Ar31, qk31, qs31, qn31, qh31, qg31⟩ := id p1_A
  have hin31 : ¬ ((0 : Int32) < 0 ∨ cl31.slots.size ≤ ((0 : Int32)).toNatClampNeg) := inb_of qs31 ⟨by decide, by decide⟩
  have hat31 : cl31.slots[((0 : Int32)).toNatClampNeg]? = some (.int y0) := qh31.at hin31 rfl
  obtain ⟨cl32, Ar32, qk32, qs32, qn32, qh32, qg32⟩ := id p0_A
  have hin32 : ¬ ((2 : Int32) < 0 ∨ cl32.slots.size ≤ ((2 : Int32)).toNatClampNeg) := inb_of qs32 ⟨by decide, by decide⟩
  obtain ⟨T33, h33, X33, e33, W33, st33⟩ := stC X0 hx hZ e0 Ar32 (j := (2 : Int32)) hin32 (g := (mkF m 5 #[.val (.ref a0), .val (.int 2), .val (.ref a2)] [(.int y0), (.int 2), (.ref a0)])) rfl rfl (hb hby d2_5)
  have V33 : Arv Z h33 a0 k0 .char (25 : Int32) [(.int s0), (.int s1), (.int (y0.toUInt32.toUInt16.toUInt32.toInt32)), (.int s3), (.int s4), (.int s5), (.int s6), (.int s7), (.int s8), (.int s9), (.int s10), (.int s11), (.int s12), (.int s13), (.int s14), (.int s15), (.int s16), (.int s17), (.int s18), (.int s19), (.int s20), (.int s21), (.int s22), (.int s23), (.int s24)] (.int 0) := Arv.set Ar32 qk32 qs32 qn32 qh32 qg32 (fits_nar_char _) W33 2 rfl (Nat.le_of_ble_eq_true rfl)
  rw [own_chn hn_0] at V33
  have N33 := Fr.snoc X33 N0 p3_g
  have K34 := K0.wr W33 (Or.inl (List.mem_of_getElem? (i := 0) rfl))
  have f35 := (p1_A.other W33 (Ne.symm p2_ne))
  obtain ⟨cl36, Ar36, qk36, qs36, qn36, qh36, qg36⟩ := id f35
  have hin36 : ¬ ((1 : Int32) < 0 ∨ cl36.slots.size ≤ ((1 : Int32)).toNatClampNeg) := inb_of qs36 ⟨by decide, by decide⟩
  have hat36 : cl36.slots[((1 : Int32)).toNatClampNeg]? = some (.int y1) := qh36.at hin36 rfl
  obtain ⟨cl37, Ar37, qk37, qs37, qn37, qh37, qg37⟩ := id V33
  have hin37 : ¬ ((3 : Int32) < 0 ∨ cl37.slots.size ≤ ((3 : Int32)).toNatClampNeg) := inb_of qs37 ⟨by decide, by decide⟩
  obtain ⟨T38, h38, X38, e38, W38, st38⟩ := stC X33 hx hZ e33 Ar37 (j := (3 : Int32)) hin37 (g := (mkF m 13 #[.val (.ref a0), .val (.int 2), .val (.ref a2)] [(.int y1), (.int 3), (.ref a0)])) rfl rfl (hb hby d2_13)
  have V38 : Arv Z h38 a0 k0 .char (25 : Int32) [(.int s0), (.int s1), (.int y0), (.int (y1.toUInt32.toUInt16.toUInt32.toInt32)), (.int s4), (.int s5), (.int s6), (.int s7), (.int s8), (.int s9), (.int s10), (.int s11), (.int s12), (.int s13), (.int s14), (.int s15), (.int s16), (.int s17), (.int s18), (.int s19), (.int s20), (.int s21), (.int s22), (.int s23), (.int s24)] (.int 0) := Arv.set Ar37 qk37 qs37 qn37 qh37 qg37 (fits_nar_char _) W38 3 rfl (Nat.le_of_ble_eq_true rfl)
  rw [own_chn hn_1] at V38
  have N38 := Fr.snoc X38 N33 p3_g
  have K39 := K34.wr W38 (Or.inl (List.mem_of_getElem? (i := 0) rfl))
  have f40 := (f35.other W38 (Ne.symm p2_ne))
  obtain ⟨cl41, Ar41, qk41, qs41, qn41, qh41, qg41⟩ := id f40
  have hin41 : ¬ ((2 : Int32) < 0 ∨ cl41.slots.size ≤ ((2 : Int32)).toNatClampNeg) := inb_of qs41 ⟨by decide, by decide⟩
  have hat41 : cl41.slots[((2 : Int32)).toNatClampNeg]? = some (.int y2) := qh41.at hin41 rfl
  obtain ⟨cl42, Ar42, qk42, qs42, qn42, qh42, qg42⟩ := id V38
  have hin42 : ¬ ((4 : Int32) < 0 ∨ cl42.slots.size ≤ ((4 : Int32)).toNatClampNeg) := inb_of qs42 ⟨by decide, by decide⟩
  obtain ⟨T43, h43, X43, e43, W43, st43⟩ := stC X38 hx hZ e38 Ar42 (j := (4 : Int32)) hin42 (g := (mkF m 21 #[.val (.ref a0), .val (.int 2), .val (.ref a2)] [(.int y2), (.int 4), (.ref a0)])) rfl rfl (hb hby d2_21)
  have V43 : Arv Z h43 a0 k0 .char (25 : Int32) [(.int s0), (.int s1), (.int y0), (.int y1), (.int (y2.toUInt32.toUInt16.toUInt32.toInt32)), (.int s5), (.int s6), (.int s7), (.int s8), (.int s9), (.int s10), (.int s11), (.int s12), (.int s13), (.int s14), (.int s15), (.int s16), (.int s17), (.int s18), (.int s19), (.int s20), (.int s21), (.int s22), (.int s23), (.int s24)] (.int 0) := Arv.set Ar42 qk42 qs42 qn42 qh42 qg42 (fits_nar_char _) W43 4 rfl (Nat.le_of_ble_eq_true rfl)
  rw [own_chn hn_2] at V43
  have N43 := Fr.snoc X43 N38 p3_g
  have K44 := K39.wr W43 (Or.inl (List.mem_of_getElem? (i := 0) rfl))
  have f45 := (f40.other W43 (Ne.symm p2_ne))
  obtain ⟨cl46, Ar46, qk46, qs46, qn46, qh46, qg46⟩ := id f45
  have hin46 : ¬ ((3 : Int32) < 0 ∨ cl46.slots.size ≤ ((3 : Int32)).toNatClampNeg) := inb_of qs46 ⟨by decide, by decide⟩
  have hat46 : cl46.slots[((3 : Int32)).toNatClampNeg]? = some (.int y3) := qh46.at hin46 rfl
  obtain ⟨cl47, Ar47, qk47, qs47, qn47, qh47, qg47⟩ := id V43
  have hin47 : ¬ ((5 : Int32) < 0 ∨ cl47.slots.size ≤ ((5 : Int32)).toNatClampNeg) := inb_of qs47 ⟨by decide, by decide⟩
  obtain ⟨T48, h48, X48, e48, W48, st48⟩ := stC X43 hx hZ e43 Ar47 (j := (5 : Int32)) hin47 (g := (mkF m 29 #[.val (.ref a0), .val (.int 2), .val (.ref a2)] [(.int y3), (.int 5), (.ref a0)])) rfl rfl (hb hby d2_29)
  have V48 : Arv Z h48 a0 k0 .char (25 : Int32) [(.int s0), (.int s1), (.int y0), (.int y1), (.int y2), (.int (y3.toUInt32.toUInt16.toUInt32.toInt32)), (.int s6), (.int s7), (.int s8), (.int s9), (.int s10), (.int s11), (.int s12), (.int s13), (.int s14), (.int s15), (.int s16), (.int s17), (.int s18), (.int s19), (.int s20), (.int s21), (.int s22), (.int s23), (.int s24)] (.int 0) := Arv.set Ar47 qk47 qs47 qn47 qh47 qg47 (fits_nar_char _) W48 5 rfl (Nat.le_of_ble_eq_true rfl)
  rw [own_chn hn_3] at V48
  have N48 := Fr.snoc X48 N43 p3_g
  have K49 := K44.wr W48 (Or.inl (List.mem_of_getElem? (i := 0) rfl))
  have f50 := (f45.other W48 (Ne.symm p2_ne))
  obtain ⟨cl51, Ar51, qk51, qs51, qn51, qh51, qg51⟩ := id f50
  have hin51 : ¬ ((4 : Int32) < 0 ∨ cl51.slots.size ≤ ((4 : Int32)).toNatClampNeg) := inb_of qs51 ⟨by decide, by decide⟩
  have hat51 : cl51.slots[((4 : Int32)).toNatClampNeg]? = some (.int y4) := qh51.at hin51 rfl
  obtain ⟨cl52, Ar52, qk52, qs52, qn52, qh52, qg52⟩ := id V48
  have hin52 : ¬ ((6 : Int32) < 0 ∨ cl52.slots.size ≤ ((6 : Int32)).toNatClampNeg) := inb_of qs52 ⟨by decide, by decide⟩
  obtain ⟨T53, h53, X53, e53, W53, st53⟩ := stC X48 hx hZ e48 Ar52 (j := (6 : Int32)) hin52 (g := (mkF m 37 #[.val (.ref a0), .val (.int 2), .val (.ref a2)] [(.int y4), (.int 6), (.ref a0)])) rfl rfl (hb hby d2_37)
  have V53 : Arv Z h53 a0 k0 .char (25 : Int32) [(.int s0), (.int s1), (.int y0), (.int y1), (.int y2), (.int y3), (.int (y4.toUInt32.toUInt16.toUInt32.toInt32)), (.int s7), (.int s8), (.int s9), (.int s10), (.int s11), (.int s12), (.int s13), (.int s14), (.int s15), (.int s16), (.int s17), (.int s18), (.int s19), (.int s20), (.int s21), (.int s22), (.int s23), (.int s24)] (.int 0) := Arv.set Ar52 qk52 qs52 qn52 qh52 qg52 (fits_nar_char _) W53 6 rfl (Nat.le_of_ble_eq_true rfl)
  rw [own_chn hn_4] at V53
  have N53 := Fr.snoc X53 N48 p3_g
  have K54 := K49.wr W53 (Or.inl (List.mem_of_getElem? (i := 0) rfl))
  have f55 := (f50.other W53 (Ne.symm p2_ne))
  obtain ⟨cl56, Ar56, qk56, qs56, qn56, qh56, qg56⟩ := id f55
  have hin56 : ¬ ((5 : Int32) < 0 ∨ cl56.slots.size ≤ ((5 : Int32)).toNatClampNeg) := inb_of qs56 ⟨by decide, by decide⟩
  have hat56 : cl56.slots[((5 : Int32)).toNatClampNeg]? = some (.int y5) := qh56.at hin56 rfl
  obtain ⟨cl57, Ar57, qk57, qs57, qn57, qh57, qg57⟩ := id V53
  have hin57 : ¬ ((7 : Int32) < 0 ∨ cl57.slots.size ≤ ((7 : Int32)).toNatClampNeg) := inb_of qs57 ⟨by decide, by decide⟩
  obtain ⟨T58, h58, X58, e58, W58, st58⟩ := stC X53 hx hZ e53 Ar57 (j := (7 : Int32)) hin57 (g := (mkF m 45 #[.val (.ref a0), .val (.int 2), .val (.ref a2)] [(.int y5), (.int 7), (.ref a0)])) rfl rfl (hb hby d2_45)
  have V58 : Arv Z h58 a0 k0 .char (25 : Int32) [(.int s0), (.int s1), (.int y0), (.int y1), (.int y2), (.int y3), (.int y4), (.int (y5.toUInt32.toUInt16.toUInt32.toInt32)), (.int s8), (.int s9), (.int s10), (.int s11), (.int s12), (.int s13), (.int s14), (.int s15), (.int s16), (.int s17), (.int s18), (.int s19), (.int s20), (.int s21), (.int s22), (.int s23), (.int s24)] (.int 0) := Arv.set Ar57 qk57 qs57 qn57 qh57 qg57 (fits_nar_char _) W58 7 rfl (Nat.le_of_ble_eq_true rfl)
  rw [own_chn hn_5] at V58
  have N58 := Fr.snoc X58 N53 p3_g
  have K59 := K54.wr W58 (Or.inl (List.mem_of_getElem? (i := 0) rfl))
  have f60 := (f55.other W58 (Ne.symm p2_ne))
  obtain ⟨cl61, Ar61, qk61, qs61, qn61, qh61, qg61⟩ := id f60
  have hin61 : ¬ ((6 : Int32) < 0 ∨ cl61.slots.size ≤ ((6 : Int32)).toNatClampNeg) := inb_of qs61 ⟨by decide, by decide⟩
  have hat61 : cl61.slots[((6 : Int32)).toNatClampNeg]? = some (.int y6) := qh61.at hin61 rfl
  obtain ⟨cl62, Ar62, qk62, qs62, qn62, qh62, qg62⟩ := id V58
  have hin62 : ¬ ((8 : Int32) < 0 ∨ cl62.slots.size ≤ ((8 : Int32)).toNatClampNeg) := inb_of qs62 ⟨by decide, by decide⟩
  obtain ⟨T63, h63, X63, e63, W63, st63⟩ := stC X58 hx hZ e58 Ar62 (j := (8 : Int32)) hin62 (g := (mkF m 55 #[.val (.ref a0), .val (.int 2), .val (.ref a2)] [(.int y6), (.int 8), (.ref a0)])) rfl rfl (hb hby d2_55)
  have V63 : Arv Z h63 a0 k0 .char (25 : Int32) [(.int s0), (.int s1), (.int y0), (.int y1), (.int y2), (.int y3), (.int y4), (.int y5), (.int (y6.toUInt32.toUInt16.toUInt32.toInt32)), (.int s9), (.int s10), (.int s11), (.int s12), (.int s13), (.int s14), (.int s15), (.int s16), (.int s17), (.int s18), (.int s19), (.int s20), (.int s21), (.int s22), (.int s23), (.int s24)] (.int 0) := Arv.set Ar62 qk62 qs62 qn62 qh62 qg62 (fits_nar_char _) W63 8 rfl (Nat.le_of_ble_eq_true rfl)
  rw [own_chn hn_6] at V63
  have N63 := Fr.snoc X63 N58 p3_g
  have K64 := K59.wr W63 (Or.inl (List.mem_of_getElem? (i := 0) rfl))
  have f65 := (f60.other W63 (Ne.symm p2_ne))
  obtain ⟨cl66, Ar66, qk66, qs66, qn66, qh66, qg66⟩ := id f65
  have hin66 : ¬ ((7 : Int32) < 0 ∨ cl66.slots.size ≤ ((7 : Int32)).toNatClampNeg) := inb_of qs66 ⟨by decide, by decide⟩
  have hat66 : cl66.slots[((7 : Int32)).toNatClampNeg]? = some (.int y7) := qh66.at hin66 rfl
  obtain ⟨cl67, Ar67, qk67, qs67, qn67, qh67, qg67⟩ := id V63
  have hin67 : ¬ ((9 : Int32) < 0 ∨ cl67.slots.size ≤ ((9 : Int32)).toNatClampNeg) := inb_of qs67 ⟨by decide, by decide⟩
  obtain ⟨T68, h68, X68, e68, W68, st68⟩ := stC X63 hx hZ e63 Ar67 (j := (9 : Int32)) hin67 (g := (mkF m 65 #[.val (.ref a0), .val (.int 2), .val (.ref a2)] [(.int y7), (.int 9), (.ref a0)])) rfl rfl (hb hby d2_65)
  have V68 : Arv Z h68 a0 k0 .char (25 : Int32) [(.int s0), (.int s1), (.int y0), (.int y1), (.int y2), (.int y3), (.int y4), (.int y5), (.int y6), (.int (y7.toUInt32.toUInt16.toUInt32.toInt32)), (.int s10), (.int s11), (.int s12), (.int s13), (.int s14), (.int s15), (.int s16), (.int s17), (.int s18), (.int s19), (.int s20), (.int s21), (.int s22), (.int s23), (.int s24)] (.int 0) := Arv.set Ar67 qk67 qs67 qn67 qh67 qg67 (fits_nar_char _) W68 9 rfl (Nat.le_of_ble_eq_true rfl)
  rw [own_chn hn_7] at V68
  have N68 := Fr.snoc X68 N63 p3_g
  have K69 := K64.wr W68 (Or.inl (List.mem_of_getElem? (i := 0) rfl))
  have f70 := (f65.other W68 (Ne.symm p2_ne))
  obtain ⟨cl71, Ar71, qk71, qs71, qn71, qh71, qg71⟩ := id f70
  have hin71 : ¬ ((8 : Int32) < 0 ∨ cl71.slots.size ≤ ((8 : Int32)).toNatClampNeg) := inb_of qs71 ⟨by decide, by decide⟩
  have hat71 : cl71.slots[((8 : Int32)).toNatClampNeg]? = some (.int y8) := qh71.at hin71 rfl
  obtain ⟨cl72, Ar72, qk72, qs72, qn72, qh72, qg72⟩ := id V68
  have hin72 : ¬ ((10 : Int32) < 0 ∨ cl72.slots.size ≤ ((10 : Int32)).toNatClampNeg) := inb_of qs72 ⟨by decide, by decide⟩
  obtain ⟨T73, h73, X73, e73, W73, st73⟩ := stC X68 hx hZ e68 Ar72 (j := (10 : Int32)) hin72 (g := (mkF m 75 #[.val (.ref a0), .val (.int 2), .val (.ref a2)] [(.int y8), (.int 10), (.ref a0)])) rfl rfl (hb hby d2_75)
  have V73 : Arv Z h73 a0 k0 .char (25 : Int32) [(.int s0), (.int s1), (.int y0), (.int y1), (.int y2), (.int y3), (.int y4), (.int y5), (.int y6), (.int y7), (.int (y8.toUInt32.toUInt16.toUInt32.toInt32)), (.int s11), (.int s12), (.int s13), (.int s14), (.int s15), (.int s16), (.int s17), (.int s18), (.int s19), (.int s20), (.int s21), (.int s22), (.int s23), (.int s24)] (.int 0) := Arv.set Ar72 qk72 qs72 qn72 qh72 qg72 (fits_nar_char _) W73 10 rfl (Nat.le_of_ble_eq_true rfl)
  rw [own_chn hn_8] at V73
  have N73 := Fr.snoc X73 N68 p3_g
  have K74 := K69.wr W73 (Or.inl (List.mem_of_getElem? (i := 0) rfl))
  have f75 := (f70.other W73 (Ne.symm p2_ne))
  obtain ⟨cl76, Ar76, -, qs76, qn76, -, -⟩ := id f75
  obtain ⟨cl77, Ar77, qk77, qs77, qn77, qh77, qg77⟩ := id f75
  have hin77 : ¬ ((9 : Int32) < 0 ∨ cl77.slots.size ≤ ((9 : Int32)).toNatClampNeg) := inb_of qs77 ⟨by decide, by decide⟩
  have hat77 : cl77.slots[((9 : Int32)).toNatClampNeg]? = some (.int y9) := qh77.at hin77 rfl
  obtain ⟨cl78, Ar78, qk78, qs78, qn78, qh78, qg78⟩ := id V73
  have hin78 : ¬ ((11 : Int32) < 0 ∨ cl78.slots.size ≤ ((11 : Int32)).toNatClampNeg) := inb_of qs78 ⟨by decide, by decide⟩
  obtain ⟨T79, h79, X79, e79, W79, st79⟩ := stC X73 hx hZ e73 Ar78 (j := (11 : Int32)) hin78 (g := (mkF m 92 #[.val (.ref a0), .val (.int 2), .val (.ref a2)] [(.int y9), (.int 11), (.ref a0)])) rfl rfl (hb hby d2_92)
  have V79 : Arv Z h79 a0 k0 .char (25 : Int32) [(.int s0), (.int s1), (.int y0), (.int y1), (.int y2), (.int y3), (.int y4), (.int y5), (.int y6), (.int y7), (.int y8), (.int (y9.toUInt32.toUInt16.toUInt32.toInt32)), (.int s12), (.int s13), (.int s14), (.int s15), (.int s16), (.int s17), (.int s18), (.int s19), (.int s20), (.int s21), (.int s22), (.int s23), (.int s24)] (.int 0) := Arv.set Ar78 qk78 qs78 qn78 qh78 qg78 (fits_nar_char _) W79 11 rfl (Nat.le_of_ble_eq_true rfl)
  rw [own_chn hn_9] at V79
  have N79 := Fr.snoc X79 N73 p3_g
  have K80 := K74.wr W79 (Or.inl (List.mem_of_getElem? (i := 0) rfl))
  have f81 := (f75.other W79 (Ne.symm p2_ne))
  obtain ⟨cl82, Ar82, -, qs82, qn82, -, -⟩ := id f81
  obtain ⟨fs, hrL, hrun, hended, hW, hsame⟩ := X79.leave (v := some (.int 12)) (fun h => by rw [Bd.returns] at h; cases h)
  refine ⟨_, _, pre0 _ ?_, hrun, hended, _, _, rfl, ?_, ⟨_, rfl⟩, hW, hsame.mono (by decide) (by decide)⟩
  · show Steps p.tables e below (s₁.setTop (mkF m 0 #[.val (.ref a0), .val (.int 2), .val (.ref a2)] [])) _
    refine XS.aloadN X0.here hx rfl (hb hby d2_0) rfl rfl ?_
    refine XS.iloadN X0.here hx rfl (hb hby d2_1) rfl ?_
    refine XS.aloadN X0.here hx rfl (hb hby d2_2) rfl rfl ?_
    show Steps p.tables e below (s₁.setTop (mkF m 3 #[.val (.ref a0), .val (.int 2), .val (.ref a2)] [(.ref a2), (.int 2), (.ref a0)])) _
    refine XS.iconst X0.here hx rfl (hb hby d2_3) ?_
    show Steps p.tables e below (s₁.setTop (mkF m 4 #[.val (.ref a0), .val (.int 2), .val (.ref a2)] [(.int 0), (.ref a2), (.int 2), (.ref a0)])) _
    refine X0.caload hx (j := (0 : Int32)) (v := (.int y0)) (by rw [e0]; exact Ar31.1) (State.isArrayOf_alike hZ.alike Ar31.2.1) Ar31.2.2 hin31 hat31 (g := (mkF m 4 #[.val (.ref a0), .val (.int 2), .val (.ref a2)] [(.int 0), (.ref a2), (.int 2), (.ref a0)])) rfl rfl (hb hby d2_4) _ ?_
    show Steps p.tables e below (s₁.setTop (mkF m 5 #[.val (.ref a0), .val (.int 2), .val (.ref a2)] [(.int y0), (.int 2), (.ref a0)])) _
    refine st33 _ ?_
    refine XS.aloadN X33.here hx rfl (hb hby d2_6) rfl rfl ?_
    show Steps p.tables e below (T33.setTop (mkF m 7 #[.val (.ref a0), .val (.int 2), .val (.ref a2)] [(.ref a0)])) _
    refine XS.iloadN X33.here hx rfl (hb hby d2_7) rfl ?_
    refine XS.iconst X33.here hx rfl (hb hby d2_8) ?_
    show Steps p.tables e below (T33.setTop (mkF m 9 #[.val (.ref a0), .val (.int 2), .val (.ref a2)] [(.int 1), (.int 2), (.ref a0)])) _
    refine XS.iadd X33.here hx rfl (hb hby d2_9) rfl ?_
    show Steps p.tables e below (T33.setTop (mkF m 10 #[.val (.ref a0), .val (.int 2), .val (.ref a2)] [(.int ((2 : Int32) + (1 : Int32))), (.ref a0)])) _
    rw [show ((2 : Int32) + (1 : Int32)) = (3 : Int32) from by decide]
    refine XS.aloadN X33.here hx rfl (hb hby d2_10) rfl rfl ?_
    show Steps p.tables e below (T33.setTop (mkF m 11 #[.val (.ref a0), .val (.int 2), .val (.ref a2)] [(.ref a2), (.int 3), (.ref a0)])) _
    refine XS.iconst X33.here hx rfl (hb hby d2_11) ?_
    show Steps p.tables e below (T33.setTop (mkF m 12 #[.val (.ref a0), .val (.int 2), .val (.ref a2)] [(.int 1), (.ref a2), (.int 3), (.ref a0)])) _
    refine X33.caload hx (j := (1 : Int32)) (v := (.int y1)) (by rw [e33]; exact Ar36.1) (State.isArrayOf_alike hZ.alike Ar36.2.1) Ar36.2.2 hin36 hat36 (g := (mkF m 12 #[.val (.ref a0), .val (.int 2), .val (.ref a2)] [(.int 1), (.ref a2), (.int 3), (.ref a0)])) rfl rfl (hb hby d2_12) _ ?_
    show Steps p.tables e below (T33.setTop (mkF m 13 #[.val (.ref a0), .val (.int 2), .val (.ref a2)] [(.int y1), (.int 3), (.ref a0)])) _
    refine st38 _ ?_
    refine XS.aloadN X38.here hx rfl (hb hby d2_14) rfl rfl ?_
    show Steps p.tables e below (T38.setTop (mkF m 15 #[.val (.ref a0), .val (.int 2), .val (.ref a2)] [(.ref a0)])) _
    refine XS.iloadN X38.here hx rfl (hb hby d2_15) rfl ?_
    refine XS.iconst X38.here hx rfl (hb hby d2_16) ?_
    show Steps p.tables e below (T38.setTop (mkF m 17 #[.val (.ref a0), .val (.int 2), .val (.ref a2)] [(.int 2), (.int 2), (.ref a0)])) _
    refine XS.iadd X38.here hx rfl (hb hby d2_17) rfl ?_
    show Steps p.tables e below (T38.setTop (mkF m 18 #[.val (.ref a0), .val (.int 2), .val (.ref a2)] [(.int ((2 : Int32) + (2 : Int32))), (.ref a0)])) _
    rw [show ((2 : Int32) + (2 : Int32)) = (4 : Int32) from by decide]
    refine XS.aloadN X38.here hx rfl (hb hby d2_18) rfl rfl ?_
    show Steps p.tables e below (T38.setTop (mkF m 19 #[.val (.ref a0), .val (.int 2), .val (.ref a2)] [(.ref a2), (.int 4), (.ref a0)])) _
    refine XS.iconst X38.here hx rfl (hb hby d2_19) ?_
    show Steps p.tables e below (T38.setTop (mkF m 20 #[.val (.ref a0), .val (.int 2), .val (.ref a2)] [(.int 2), (.ref a2), (.int 4), (.ref a0)])) _
    refine X38.caload hx (j := (2 : Int32)) (v := (.int y2)) (by rw [e38]; exact Ar41.1) (State.isArrayOf_alike hZ.alike Ar41.2.1) Ar41.2.2 hin41 hat41 (g := (mkF m 20 #[.val (.ref a0), .val (.int 2), .val (.ref a2)] [(.int 2), (.ref a2), (.int 4), (.ref a0)])) rfl rfl (hb hby d2_20) _ ?_
    show Steps p.tables e below (T38.setTop (mkF m 21 #[.val (.ref a0), .val (.int 2), .val (.ref a2)] [(.int y2), (.int 4), (.ref a0)])) _
    refine st43 _ ?_
    refine XS.aloadN X43.here hx rfl (hb hby d2_22) rfl rfl ?_
    show Steps p.tables e below (T43.setTop (mkF m 23 #[.val (.ref a0), .val (.int 2), .val (.ref a2)] [(.ref a0)])) _
    refine XS.iloadN X43.here hx rfl (hb hby d2_23) rfl ?_
    refine XS.iconst X43.here hx rfl (hb hby d2_24) ?_
    show Steps p.tables e below (T43.setTop (mkF m 25 #[.val (.ref a0), .val (.int 2), .val (.ref a2)] [(.int 3), (.int 2), (.ref a0)])) _
    refine XS.iadd X43.here hx rfl (hb hby d2_25) rfl ?_
    show Steps p.tables e below (T43.setTop (mkF m 26 #[.val (.ref a0), .val (.int 2), .val (.ref a2)] [(.int ((2 : Int32) + (3 : Int32))), (.ref a0)])) _
    rw [show ((2 : Int32) + (3 : Int32)) = (5 : Int32) from by decide]
    refine XS.aloadN X43.here hx rfl (hb hby d2_26) rfl rfl ?_
    show Steps p.tables e below (T43.setTop (mkF m 27 #[.val (.ref a0), .val (.int 2), .val (.ref a2)] [(.ref a2), (.int 5), (.ref a0)])) _
    refine XS.iconst X43.here hx rfl (hb hby d2_27) ?_
    show Steps p.tables e below (T43.setTop (mkF m 28 #[.val (.ref a0), .val (.int 2), .val (.ref a2)] [(.int 3), (.ref a2), (.int 5), (.ref a0)])) _
    refine X43.caload hx (j := (3 : Int32)) (v := (.int y3)) (by rw [e43]; exact Ar46.1) (State.isArrayOf_alike hZ.alike Ar46.2.1) Ar46.2.2 hin46 hat46 (g := (mkF m 28 #[.val (.ref a0), .val (.int 2), .val (.ref a2)] [(.int 3), (.ref a2), (.int 5), (.ref a0)])) rfl rfl (hb hby d2_28) _ ?_
    show Steps p.tables e below (T43.setTop (mkF m 29 #[.val (.ref a0), .val (.int 2), .val (.ref a2)] [(.int y3), (.int 5), (.ref a0)])) _
    refine st48 _ ?_
    refine XS.aloadN X48.here hx rfl (hb hby d2_30) rfl rfl ?_
    show Steps p.tables e below (T48.setTop (mkF m 31 #[.val (.ref a0), .val (.int 2), .val (.ref a2)] [(.ref a0)])) _
    refine XS.iloadN X48.here hx rfl (hb hby d2_31) rfl ?_
    refine XS.iconst X48.here hx rfl (hb hby d2_32) ?_
    show Steps p.tables e below (T48.setTop (mkF m 33 #[.val (.ref a0), .val (.int 2), .val (.ref a2)] [(.int 4), (.int 2), (.ref a0)])) _
    refine XS.iadd X48.here hx rfl (hb hby d2_33) rfl ?_
    show Steps p.tables e below (T48.setTop (mkF m 34 #[.val (.ref a0), .val (.int 2), .val (.ref a2)] [(.int ((2 : Int32) + (4 : Int32))), (.ref a0)])) _
    rw [show ((2 : Int32) + (4 : Int32)) = (6 : Int32) from by decide]
    refine XS.aloadN X48.here hx rfl (hb hby d2_34) rfl rfl ?_
    show Steps p.tables e below (T48.setTop (mkF m 35 #[.val (.ref a0), .val (.int 2), .val (.ref a2)] [(.ref a2), (.int 6), (.ref a0)])) _
    refine XS.iconst X48.here hx rfl (hb hby d2_35) ?_
    show Steps p.tables e below (T48.setTop (mkF m 36 #[.val (.ref a0), .val (.int 2), .val (.ref a2)] [(.int 4), (.ref a2), (.int 6), (.ref a0)])) _
    refine X48.caload hx (j := (4 : Int32)) (v := (.int y4)) (by rw [e48]; exact Ar51.1) (State.isArrayOf_alike hZ.alike Ar51.2.1) Ar51.2.2 hin51 hat51 (g := (mkF m 36 #[.val (.ref a0), .val (.int 2), .val (.ref a2)] [(.int 4), (.ref a2), (.int 6), (.ref a0)])) rfl rfl (hb hby d2_36) _ ?_
    show Steps p.tables e below (T48.setTop (mkF m 37 #[.val (.ref a0), .val (.int 2), .val (.ref a2)] [(.int y4), (.int 6), (.ref a0)])) _
    refine st53 _ ?_
    refine XS.aloadN X53.here hx rfl (hb hby d2_38) rfl rfl ?_
    show Steps p.tables e below (T53.setTop (mkF m 39 #[.val (.ref a0), .val (.int 2), .val (.ref a2)] [(.ref a0)])) _
    refine XS.iloadN X53.here hx rfl (hb hby d2_39) rfl ?_
    refine XS.iconst X53.here hx rfl (hb hby d2_40) ?_
    show Steps p.tables e below (T53.setTop (mkF m 41 #[.val (.ref a0), .val (.int 2), .val (.ref a2)] [(.int 5), (.int 2), (.ref a0)])) _
    refine XS.iadd X53.here hx rfl (hb hby d2_41) rfl ?_
    show Steps p.tables e below (T53.setTop (mkF m 42 #[.val (.ref a0), .val (.int 2), .val (.ref a2)] [(.int ((2 : Int32) + (5 : Int32))), (.ref a0)])) _
    rw [show ((2 : Int32) + (5 : Int32)) = (7 : Int32) from by decide]
    refine XS.aloadN X53.here hx rfl (hb hby d2_42) rfl rfl ?_
    show Steps p.tables e below (T53.setTop (mkF m 43 #[.val (.ref a0), .val (.int 2), .val (.ref a2)] [(.ref a2), (.int 7), (.ref a0)])) _
    refine XS.iconst X53.here hx rfl (hb hby d2_43) ?_
    show Steps p.tables e below (T53.setTop (mkF m 44 #[.val (.ref a0), .val (.int 2), .val (.ref a2)] [(.int 5), (.ref a2), (.int 7), (.ref a0)])) _
    refine X53.caload hx (j := (5 : Int32)) (v := (.int y5)) (by rw [e53]; exact Ar56.1) (State.isArrayOf_alike hZ.alike Ar56.2.1) Ar56.2.2 hin56 hat56 (g := (mkF m 44 #[.val (.ref a0), .val (.int 2), .val (.ref a2)] [(.int 5), (.ref a2), (.int 7), (.ref a0)])) rfl rfl (hb hby d2_44) _ ?_
    show Steps p.tables e below (T53.setTop (mkF m 45 #[.val (.ref a0), .val (.int 2), .val (.ref a2)] [(.int y5), (.int 7), (.ref a0)])) _
    refine st58 _ ?_
    refine XS.aloadN X58.here hx rfl (hb hby d2_46) rfl rfl ?_
    show Steps p.tables e below (T58.setTop (mkF m 47 #[.val (.ref a0), .val (.int 2), .val (.ref a2)] [(.ref a0)])) _
    refine XS.iloadN X58.here hx rfl (hb hby d2_47) rfl ?_
    refine XS.bipush X58.here hx rfl (hb hby d2_48) ?_
    show Steps p.tables e below (T58.setTop (mkF m 50 #[.val (.ref a0), .val (.int 2), .val (.ref a2)] [(.int 6), (.int 2), (.ref a0)])) _
    refine XS.iadd X58.here hx rfl (hb hby d2_50) rfl ?_
    show Steps p.tables e below (T58.setTop (mkF m 51 #[.val (.ref a0), .val (.int 2), .val (.ref a2)] [(.int ((2 : Int32) + (6 : Int32))), (.ref a0)])) _
    rw [show ((2 : Int32) + (6 : Int32)) = (8 : Int32) from by decide]
    refine XS.aloadN X58.here hx rfl (hb hby d2_51) rfl rfl ?_
    show Steps p.tables e below (T58.setTop (mkF m 52 #[.val (.ref a0), .val (.int 2), .val (.ref a2)] [(.ref a2), (.int 8), (.ref a0)])) _
    refine XS.bipush X58.here hx rfl (hb hby d2_52) ?_
    show Steps p.tables e below (T58.setTop (mkF m 54 #[.val (.ref a0), .val (.int 2), .val (.ref a2)] [(.int 6), (.ref a2), (.int 8), (.ref a0)])) _
    refine X58.caload hx (j := (6 : Int32)) (v := (.int y6)) (by rw [e58]; exact Ar61.1) (State.isArrayOf_alike hZ.alike Ar61.2.1) Ar61.2.2 hin61 hat61 (g := (mkF m 54 #[.val (.ref a0), .val (.int 2), .val (.ref a2)] [(.int 6), (.ref a2), (.int 8), (.ref a0)])) rfl rfl (hb hby d2_54) _ ?_
    show Steps p.tables e below (T58.setTop (mkF m 55 #[.val (.ref a0), .val (.int 2), .val (.ref a2)] [(.int y6), (.int 8), (.ref a0)])) _
    refine st63 _ ?_
    refine XS.aloadN X63.here hx rfl (hb hby d2_56) rfl rfl ?_
    show Steps p.tables e below (T63.setTop (mkF m 57 #[.val (.ref a0), .val (.int 2), .val (.ref a2)] [(.ref a0)])) _
    refine XS.iloadN X63.here hx rfl (hb hby d2_57) rfl ?_
    refine XS.bipush X63.here hx rfl (hb hby d2_58) ?_
    show Steps p.tables e below (T63.setTop (mkF m 60 #[.val (.ref a0), .val (.int 2), .val (.ref a2)] [(.int 7), (.int 2), (.ref a0)])) _
    refine XS.iadd X63.here hx rfl (hb hby d2_60) rfl ?_
    show Steps p.tables e below (T63.setTop (mkF m 61 #[.val (.ref a0), .val (.int 2), .val (.ref a2)] [(.int ((2 : Int32) + (7 : Int32))), (.ref a0)])) _
    rw [show ((2 : Int32) + (7 : Int32)) = (9 : Int32) from by decide]
    refine XS.aloadN X63.here hx rfl (hb hby d2_61) rfl rfl ?_
    show Steps p.tables e below (T63.setTop (mkF m 62 #[.val (.ref a0), .val (.int 2), .val (.ref a2)] [(.ref a2), (.int 9), (.ref a0)])) _
    refine XS.bipush X63.here hx rfl (hb hby d2_62) ?_
    show Steps p.tables e below (T63.setTop (mkF m 64 #[.val (.ref a0), .val (.int 2), .val (.ref a2)] [(.int 7), (.ref a2), (.int 9), (.ref a0)])) _
    refine X63.caload hx (j := (7 : Int32)) (v := (.int y7)) (by rw [e63]; exact Ar66.1) (State.isArrayOf_alike hZ.alike Ar66.2.1) Ar66.2.2 hin66 hat66 (g := (mkF m 64 #[.val (.ref a0), .val (.int 2), .val (.ref a2)] [(.int 7), (.ref a2), (.int 9), (.ref a0)])) rfl rfl (hb hby d2_64) _ ?_
    show Steps p.tables e below (T63.setTop (mkF m 65 #[.val (.ref a0), .val (.int 2), .val (.ref a2)] [(.int y7), (.int 9), (.ref a0)])) _
    refine st68 _ ?_
    refine XS.aloadN X68.here hx rfl (hb hby d2_66) rfl rfl ?_
    show Steps p.tables e below (T68.setTop (mkF m 67 #[.val (.ref a0), .val (.int 2), .val (.ref a2)] [(.ref a0)])) _
    refine XS.iloadN X68.here hx rfl (hb hby d2_67) rfl ?_
    refine XS.bipush X68.here hx rfl (hb hby d2_68) ?_
    show Steps p.tables e below (T68.setTop (mkF m 70 #[.val (.ref a0), .val (.int 2), .val (.ref a2)] [(.int 8), (.int 2), (.ref a0)])) _
    refine XS.iadd X68.here hx rfl (hb hby d2_70) rfl ?_
    show Steps p.tables e below (T68.setTop (mkF m 71 #[.val (.ref a0), .val (.int 2), .val (.ref a2)] [(.int ((2 : Int32) + (8 : Int32))), (.ref a0)])) _
    rw [show ((2 : Int32) + (8 : Int32)) = (10 : Int32) from by decide]
    refine XS.aloadN X68.here hx rfl (hb hby d2_71) rfl rfl ?_
    show Steps p.tables e below (T68.setTop (mkF m 72 #[.val (.ref a0), .val (.int 2), .val (.ref a2)] [(.ref a2), (.int 10), (.ref a0)])) _
    refine XS.bipush X68.here hx rfl (hb hby d2_72) ?_
    show Steps p.tables e below (T68.setTop (mkF m 74 #[.val (.ref a0), .val (.int 2), .val (.ref a2)] [(.int 8), (.ref a2), (.int 10), (.ref a0)])) _
    refine X68.caload hx (j := (8 : Int32)) (v := (.int y8)) (by rw [e68]; exact Ar71.1) (State.isArrayOf_alike hZ.alike Ar71.2.1) Ar71.2.2 hin71 hat71 (g := (mkF m 74 #[.val (.ref a0), .val (.int 2), .val (.ref a2)] [(.int 8), (.ref a2), (.int 10), (.ref a0)])) rfl rfl (hb hby d2_74) _ ?_
    show Steps p.tables e below (T68.setTop (mkF m 75 #[.val (.ref a0), .val (.int 2), .val (.ref a2)] [(.int y8), (.int 10), (.ref a0)])) _
    refine st73 _ ?_
    refine XS.aloadN X73.here hx rfl (hb hby d2_76) rfl rfl ?_
    show Steps p.tables e below (T73.setTop (mkF m 77 #[.val (.ref a0), .val (.int 2), .val (.ref a2)] [(.ref a2)])) _
    refine X73.arraylength hx (by rw [e73]; exact Ar76.1) (State.isArrayOf_alike hZ.alike Ar76.2.1) (g := (mkF m 77 #[.val (.ref a0), .val (.int 2), .val (.ref a2)] [(.ref a2)])) rfl rfl (hb hby d2_77) _ ?_
    rw [len_of qs76 qn76]
    refine XS.bipush X73.here hx rfl (hb hby d2_78) ?_
    show Steps p.tables e below (T73.setTop (mkF m 80 #[.val (.ref a0), .val (.int 2), .val (.ref a2)] [(.int 10), (.int 10)])) _
    refine XS.icmpNo X73.here hx rfl (hb hby d2_80) rfl (teq (by decide : (10 : Int32) = (10 : Int32))).2 ?_
    refine XS.aloadN X73.here hx rfl (hb hby d2_83) rfl rfl ?_
    show Steps p.tables e below (T73.setTop (mkF m 84 #[.val (.ref a0), .val (.int 2), .val (.ref a2)] [(.ref a0)])) _
    refine XS.iloadN X73.here hx rfl (hb hby d2_84) rfl ?_
    refine XS.bipush X73.here hx rfl (hb hby d2_85) ?_
    show Steps p.tables e below (T73.setTop (mkF m 87 #[.val (.ref a0), .val (.int 2), .val (.ref a2)] [(.int 9), (.int 2), (.ref a0)])) _
    refine XS.iadd X73.here hx rfl (hb hby d2_87) rfl ?_
    show Steps p.tables e below (T73.setTop (mkF m 88 #[.val (.ref a0), .val (.int 2), .val (.ref a2)] [(.int ((2 : Int32) + (9 : Int32))), (.ref a0)])) _
    rw [show ((2 : Int32) + (9 : Int32)) = (11 : Int32) from by decide]
    refine XS.aloadN X73.here hx rfl (hb hby d2_88) rfl rfl ?_
    show Steps p.tables e below (T73.setTop (mkF m 89 #[.val (.ref a0), .val (.int 2), .val (.ref a2)] [(.ref a2), (.int 11), (.ref a0)])) _
    refine XS.bipush X73.here hx rfl (hb hby d2_89) ?_
    show Steps p.tables e below (T73.setTop (mkF m 91 #[.val (.ref a0), .val (.int 2), .val (.ref a2)] [(.int 9), (.ref a2), (.int 11), (.ref a0)])) _
    refine X73.caload hx (j := (9 : Int32)) (v := (.int y9)) (by rw [e73]; exact Ar77.1) (State.isArrayOf_alike hZ.alike Ar77.2.1) Ar77.2.2 hin77 hat77 (g := (mkF m 91 #[.val (.ref a0), .val (.int 2), .val (.ref a2)] [(.int 9), (.ref a2), (.int 11), (.ref a0)])) rfl rfl (hb hby d2_91) _ ?_
    show Steps p.tables e below (T73.setTop (mkF m 92 #[.val (.ref a0), .val (.int 2), .val (.ref a2)] [(.int y9), (.int 11), (.ref a0)])) _
    refine st79 _ ?_
    refine XS.iloadN X79.here hx rfl (hb hby d2_93) rfl ?_
    show Steps p.tables e below (T79.setTop (mkF m 94 #[.val (.ref a0), .val (.int 2), .val (.ref a2)] [(.int 2)])) _
    refine XS.aloadN X79.here hx rfl (hb hby d2_94) rfl rfl ?_
    show Steps p.tables e below (T79.setTop (mkF m 95 #[.val (.ref a0), .val (.int 2), .val (.ref a2)] [(.ref a2), (.int 2)])) _
    refine X79.arraylength hx (by rw [e79]; exact Ar82.1) (State.isArrayOf_alike hZ.alike Ar82.2.1) (g := (mkF m 95 #[.val (.ref a0), .val (.int 2), .val (.ref a2)] [(.ref a2), (.int 2)])) rfl rfl (hb hby d2_95) _ ?_
    rw [len_of qs82 qn82]
    show Steps p.tables e below (T79.setTop (mkF m 96 #[.val (.ref a0), .val (.int 2), .val (.ref a2)] [(.int 10), (.int 2)])) _
    refine XS.iadd X79.here hx rfl (hb hby d2_96) rfl ?_
    show Steps p.tables e below (T79.setTop (mkF m 97 #[.val (.ref a0), .val (.int 2), .val (.ref a2)] [(.int ((2 : Int32) + (10 : Int32)))])) _
    rw [show ((2 : Int32) + (10 : Int32)) = (12 : Int32) from by decide]
    show Steps p.tables e below (T79.setTop (mkF m 97 #[.val (.ref a0), .val (.int 2), .val (.ref a2)] [(.int 12)])) _
    exact retI X79 hx Bd.returns (hb hby d2_97) hrL
  · show Q_place_2_10 _ _ _ _ _ _ _ _ _ _ _ _ _ _ _ _ _ _ _ _ _ _ _ _ _ _ _ _ _ _ _ _ _ _ _ _ _ _ _ _ _ _ _  T79.heap _
    rw [e79]
    exact ⟨rfl, N79, K80, V79⟩
theorem ef_place_14_9 (m : MethodId) (a0 : Addr) (a2 : Addr) : entryFrame m #[(.ref a0), (.int 14), (.ref a2)] 3 = mkF m 0 #[.val (.ref a0), .val (.int 14), .val (.ref a2)] [] := by first | (simp [entryFrame, mkF, argsToLocals, Value.category]; done) | rfl
def Q_place_14_9 (Z : State) (a0 : Addr) (a2 : Addr) (s0 : Int32) (s1 : Int32) (s2 : Int32) (s3 : Int32) (s4 : Int32) (s5 : Int32) (s6 : Int32) (s7 : Int32) (s8 : Int32) (s9 : Int32) (s10 : Int32) (s11 : Int32) (s12 : Int32) (s13 : Int32) (s14 : Int32) (s15 : Int32) (s16 : Int32) (s17 : Int32) (s18 : Int32) (s19 : Int32) (s20 : Int32) (s21 : Int32) (s22 : Int32) (s23 : Int32) (s24 : Int32) (y0 : Int32) (y1 : Int32) (y2 : Int32) (y3 : Int32) (y4 : Int32) (y5 : Int32) (y6 : Int32) (y7 : Int32) (y8 : Int32) (k0 : ClassId) (k2 : ClassId) (h0 : Heap) (n0 : Nat) (v : Option Value) (h : Heap) (L : List Loc) : Prop := v = some (.int 23) ∧ Fr n0 L ∧ Keep h0 h [a0] ∧ Arv Z h a0 k0 .char (25 : Int32) [(.int s0), (.int s1), (.int s2), (.int s3), (.int s4), (.int s5), (.int s6), (.int s7), (.int s8), (.int s9), (.int s10), (.int s11), (.int s12), (.int s13), (.int y0), (.int y1), (.int y2), (.int y3), (.int y4), (.int y5), (.int y6), (.int y7), (.int y8), (.int s23), (.int s24)] (.int 0)
set_option maxRecDepth 65536 in
set_option maxHeartbeats 40000000 in
theorem place_14_9 (l : Launch) (Z : State) (av0 : Array Value) (hw : ∀ d ∈ tables_1, d.before av0 Z = true) (ws : List Jvm.Cond) (a0 : Addr) (a2 : Addr) (s0 : Int32) (s1 : Int32) (s2 : Int32) (s3 : Int32) (s4 : Int32) (s5 : Int32) (s6 : Int32) (s7 : Int32) (s8 : Int32) (s9 : Int32) (s10 : Int32) (s11 : Int32) (s12 : Int32) (s13 : Int32) (s14 : Int32) (s15 : Int32) (s16 : Int32) (s17 : Int32) (s18 : Int32) (s19 : Int32) (s20 : Int32) (s21 : Int32) (s22 : Int32) (s23 : Int32) (s24 : Int32) (y0 : Int32) (y1 : Int32) (y2 : Int32) (y3 : Int32) (y4 : Int32) (y5 : Int32) (y6 : Int32) (y7 : Int32) (y8 : Int32) (k0 : ClassId) (k2 : ClassId) (h0 : Heap) (n0 : Nat) (Z0 : n0 ≤ h0.size) (p0_A : Arv Z h0 a0 k0 .char (25 : Int32) [(.int s0), (.int s1), (.int s2), (.int s3), (.int s4), (.int s5), (.int s6), (.int s7), (.int s8), (.int s9), (.int s10), (.int s11), (.int s12), (.int s13), (.int s14), (.int s15), (.int s16), (.int s17), (.int s18), (.int s19), (.int s20), (.int s21), (.int s22), (.int s23), (.int s24)] (.int 0)) (p1_A : Arv Z h0 a2 k2 .char (9 : Int32) [(.int y0), (.int y1), (.int y2), (.int y3), (.int y4), (.int y5), (.int y6), (.int y7), (.int y8)] (.int 0)) (p2_ne : a0 ≠ a2) (p3_g : n0 ≤ a0) (hn_0 : Ch y0) (hn_1 : Ch y1) (hn_2 : Ch y2) (hn_3 : Ch y3) (hn_4 : Ch y4) (hn_5 : Ch y5) (hn_6 : Ch y6) (hn_7 : Ch y7) (hn_8 : Ch y8) :
    MetFree l (⟨"com/example/ulinzi/ulinzi/model/OwnerFilterWrittenInPinLaw", "place", "([CI[C)I"⟩ : MethodName) (head1 (Jvm.Cond.code (⟨"com/example/ulinzi/ulinzi/model/OwnerFilterWrittenInPinLaw", "place", "([CI[C)I"⟩ : MethodName) method_4_code 3 (some .int) :: ws) ({ frames := 0, cells := 0, slots := 0, locals := 0 } : Room)) (fun a U => a = #[(.ref a0), (.int 14), (.ref a2)] ∧ Z.Warmed39 U.vm ∧ U.heap = h0) (fun _ _ _ _ _ => True) (fun _ U o U' => ∃ v L, o = .returned v ∧ Q_place_14_9 Z a0 a2 s0 s1 s2 s3 s4 s5 s6 s7 s8 s9 s10 s11 s12 s13 s14 s15 s16 s17 s18 s19 s20 s21 s22 s23 s24 y0 y1 y2 y3 y4 y5 y6 y7 y8 k0 k2 h0 n0 v U'.heap L ∧ FrameEnd U o U' L ({ frames := 0, cells := 0, slots := 0, locals := 0 } : Room).cells ({ frames := 0, cells := 0, slots := 0, locals := 0 } : Room).slots) := by
  refine MetFree.of_bodySF (plainFor_of_name pn_com_example_ulinzi_ulinzi_model_OwnerFilterWrittenInPinLaw) hisR ?_
  intro p e s m args below meth c s₁ Bd hml0 hP hK
  obtain ⟨rfl, hZ, hh⟩ := hP
  have hx := Bd.exec
  have hby := Bd.bytes
  have hml : c.maxLocals = 3 := hml0
  have hown : s.vm.findClass "com/example/ulinzi/ulinzi/model/OwnerFilterWrittenInPinLaw" = some m.cls := findClass_of_methodNamed Bd.named
  have hnm := (name_of_methodNamed Bd.named Bd.method).1
  have X0 : Stand p l e ({ frames := 0, cells := 0, slots := 0, locals := 0 } : Room) s m #[(.ref a0), (.int 14), (.ref a2)] below meth c s₁ [] 0 0 := Stand.of_body Bd
  have e0 : s₁.heap = h0 := by rw [← hh, Bd.state]; rfl
  have N0 := Fr.nil n0
  have pre0 : ∀ tz_, Steps p.tables e below (s₁.setTop (mkF m 0 #[.val (.ref a0), .val (.int 14), .val (.ref a2)] [])) tz_ → Steps p.tables e below (s₁.setTop (entryFrame m #[(.ref a0), (.int 14), (.ref a2)] 3)) tz_ := fun tz_ kz_ => castTop (ef_place_14_9 m a0 a2) kz_
  have K0 : Keep h0 h0 [a0] := Keep.refl h0 [a0]
  obtain ⟨cl31, Ar31, qk31, qs31, qn31, qh31, qg31⟩ := id p1_A
  have hin31 : ¬ ((0 : Int32) < 0 ∨ cl31.slots.size ≤ ((0 : Int32)).toNatClampNeg) := inb_of qs31 ⟨by decide, by decide⟩
  have hat31 : cl31.slots[((0 : Int32)).toNatClampNeg]? = some (.int y0) := qh31.at hin31 rfl
  obtain ⟨cl32, Ar32, qk32, qs32, qn32, qh32, qg32⟩ := id p0_A
  have hin32 : ¬ ((14 : Int32) < 0 ∨ cl32.slots.size ≤ ((14 : Int32)).toNatClampNeg) := inb_of qs32 ⟨by decide, by decide⟩
  obtain ⟨T33, h33, X33, e33, W33, st33⟩ := stC X0 hx hZ e0 Ar32 (j := (14 : Int32)) hin32 (g := (mkF m 5 #[.val (.ref a0), .val (.int 14), .val (.ref a2)] [(.int y0), (.int 14), (.ref a0)])) rfl rfl (hb hby d2_5)
  have V33 : Arv Z h33 a0 k0 .char (25 : Int32) [(.int s0), (.int s1), (.int s2), (.int s3), (.int s4), (.int s5), (.int s6), (.int s7), (.int s8), (.int s9), (.int s10), (.int s11), (.int s12), (.int s13), (.int (y0.toUInt32.toUInt16.toUInt32.toInt32)), (.int s15), (.int s16), (.int s17), (.int s18), (.int s19), (.int s20), (.int s21), (.int s22), (.int s23), (.int s24)] (.int 0) := Arv.set Ar32 qk32 qs32 qn32 qh32 qg32 (fits_nar_char _) W33 14 rfl (Nat.le_of_ble_eq_true rfl)
  rw [own_chn hn_0] at V33
  have N33 := Fr.snoc X33 N0 p3_g
  have K34 := K0.wr W33 (Or.inl (List.mem_of_getElem? (i := 0) rfl))
  have f35 := (p1_A.other W33 (Ne.symm p2_ne))
  obtain ⟨cl36, Ar36, qk36, qs36, qn36, qh36, qg36⟩ := id f35
  have hin36 : ¬ ((1 : Int32) < 0 ∨ cl36.slots.size ≤ ((1 : Int32)).toNatClampNeg) := inb_of qs36 ⟨by decide, by decide⟩
  have hat36 : cl36.slots[((1 : Int32)).toNatClampNeg]? = some (.int y1) := qh36.at hin36 rfl
  obtain ⟨cl37, Ar37, qk37, qs37, qn37, qh37, qg37⟩ := id V33
  have hin37 : ¬ ((15 : Int32) < 0 ∨ cl37.slots.size ≤ ((15 : Int32)).toNatClampNeg) := inb_of qs37 ⟨by decide, by decide⟩
  obtain ⟨T38, h38, X38, e38, W38, st38⟩ := stC X33 hx hZ e33 Ar37 (j := (15 : Int32)) hin37 (g := (mkF m 13 #[.val (.ref a0), .val (.int 14), .val (.ref a2)] [(.int y1), (.int 15), (.ref a0)])) rfl rfl (hb hby d2_13)
  have V38 : Arv Z h38 a0 k0 .char (25 : Int32) [(.int s0), (.int s1), (.int s2), (.int s3), (.int s4), (.int s5), (.int s6), (.int s7), (.int s8), (.int s9), (.int s10), (.int s11), (.int s12), (.int s13), (.int y0), (.int (y1.toUInt32.toUInt16.toUInt32.toInt32)), (.int s16), (.int s17), (.int s18), (.int s19), (.int s20), (.int s21), (.int s22), (.int s23), (.int s24)] (.int 0) := Arv.set Ar37 qk37 qs37 qn37 qh37 qg37 (fits_nar_char _) W38 15 rfl (Nat.le_of_ble_eq_true rfl)
  rw [own_chn hn_1] at V38
  have N38 := Fr.snoc X38 N33 p3_g
  have K39 := K34.wr W38 (Or.inl (List.mem_of_getElem? (i := 0) rfl))
  have f40 := (f35.other W38 (Ne.symm p2_ne))
  obtain ⟨cl41, Ar41, qk41, qs41, qn41, qh41, qg41⟩ := id f40
  have hin41 : ¬ ((2 : Int32) < 0 ∨ cl41.slots.size ≤ ((2 : Int32)).toNatClampNeg) := inb_of qs41 ⟨by decide, by decide⟩
  have hat41 : cl41.slots[((2 : Int32)).toNatClampNeg]? = some (.int y2) := qh41.at hin41 rfl
  obtain ⟨cl42, Ar42, qk42, qs42, qn42, qh42, qg42⟩ := id V38
  have hin42 : ¬ ((16 : Int32) < 0 ∨ cl42.slots.size ≤ ((16 : Int32)).toNatClampNeg) := inb_of qs42 ⟨by decide, by decide⟩
  obtain ⟨T43, h43, X43, e43, W43, st43⟩ := stC X38 hx hZ e38 Ar42 (j := (16 : Int32)) hin42 (g := (mkF m 21 #[.val (.ref a0), .val (.int 14), .val (.ref a2)] [(.int y2), (.int 16), (.ref a0)])) rfl rfl (hb hby d2_21)
  have V43 : Arv Z h43 a0 k0 .char (25 : Int32) [(.int s0), (.int s1), (.int s2), (.int s3), (.int s4), (.int s5), (.int s6), (.int s7), (.int s8), (.int s9), (.int s10), (.int s11), (.int s12), (.int s13), (.int y0), (.int y1), (.int (y2.toUInt32.toUInt16.toUInt32.toInt32)), (.int s17), (.int s18), (.int s19), (.int s20), (.int s21), (.int s22), (.int s23), (.int s24)] (.int 0) := Arv.set Ar42 qk42 qs42 qn42 qh42 qg42 (fits_nar_char _) W43 16 rfl (Nat.le_of_ble_eq_true rfl)
  rw [own_chn hn_2] at V43
  have N43 := Fr.snoc X43 N38 p3_g
  have K44 := K39.wr W43 (Or.inl (List.mem_of_getElem? (i := 0) rfl))
  have f45 := (f40.other W43 (Ne.symm p2_ne))
  obtain ⟨cl46, Ar46, qk46, qs46, qn46, qh46, qg46⟩ := id f45
  have hin46 : ¬ ((3 : Int32) < 0 ∨ cl46.slots.size ≤ ((3 : Int32)).toNatClampNeg) := inb_of qs46 ⟨by decide, by decide⟩
  have hat46 : cl46.slots[((3 : Int32)).toNatClampNeg]? = some (.int y3) := qh46.at hin46 rfl
  obtain ⟨cl47, Ar47, qk47, qs47, qn47, qh47, qg47⟩ := id V43
  have hin47 : ¬ ((17 : Int32) < 0 ∨ cl47.slots.size ≤ ((17 : Int32)).toNatClampNeg) := inb_of qs47 ⟨by decide, by decide⟩
  obtain ⟨T48, h48, X48, e48, W48, st48⟩ := stC X43 hx hZ e43 Ar47 (j := (17 : Int32)) hin47 (g := (mkF m 29 #[.val (.ref a0), .val (.int 14), .val (.ref a2)] [(.int y3), (.int 17), (.ref a0)])) rfl rfl (hb hby d2_29)
  have V48 : Arv Z h48 a0 k0 .char (25 : Int32) [(.int s0), (.int s1), (.int s2), (.int s3), (.int s4), (.int s5), (.int s6), (.int s7), (.int s8), (.int s9), (.int s10), (.int s11), (.int s12), (.int s13), (.int y0), (.int y1), (.int y2), (.int (y3.toUInt32.toUInt16.toUInt32.toInt32)), (.int s18), (.int s19), (.int s20), (.int s21), (.int s22), (.int s23), (.int s24)] (.int 0) := Arv.set Ar47 qk47 qs47 qn47 qh47 qg47 (fits_nar_char _) W48 17 rfl (Nat.le_of_ble_eq_true rfl)
  rw [own_chn hn_3] at V48
  have N48 := Fr.snoc X48 N43 p3_g
  have K49 := K44.wr W48 (Or.inl (List.mem_of_getElem? (i := 0) rfl))
  have f50 := (f45.other W48 (Ne.symm p2_ne))
  obtain ⟨cl51, Ar51, qk51, qs51, qn51, qh51, qg51⟩ := id f50
  have hin51 : ¬ ((4 : Int32) < 0 ∨ cl51.slots.size ≤ ((4 : Int32)).toNatClampNeg) := inb_of qs51 ⟨by decide, by decide⟩
  have hat51 : cl51.slots[((4 : Int32)).toNatClampNeg]? = some (.int y4) := qh51.at hin51 rfl
  obtain ⟨cl52, Ar52, qk52, qs52, qn52, qh52, qg52⟩ := id V48
  have hin52 : ¬ ((18 : Int32) < 0 ∨ cl52.slots.size ≤ ((18 : Int32)).toNatClampNeg) := inb_of qs52 ⟨by decide, by decide⟩
  obtain ⟨T53, h53, X53, e53, W53, st53⟩ := stC X48 hx hZ e48 Ar52 (j := (18 : Int32)) hin52 (g := (mkF m 37 #[.val (.ref a0), .val (.int 14), .val (.ref a2)] [(.int y4), (.int 18), (.ref a0)])) rfl rfl (hb hby d2_37)
  have V53 : Arv Z h53 a0 k0 .char (25 : Int32) [(.int s0), (.int s1), (.int s2), (.int s3), (.int s4), (.int s5), (.int s6), (.int s7), (.int s8), (.int s9), (.int s10), (.int s11), (.int s12), (.int s13), (.int y0), (.int y1), (.int y2), (.int y3), (.int (y4.toUInt32.toUInt16.toUInt32.toInt32)), (.int s19), (.int s20), (.int s21), (.int s22), (.int s23), (.int s24)] (.int 0) := Arv.set Ar52 qk52 qs52 qn52 qh52 qg52 (fits_nar_char _) W53 18 rfl (Nat.le_of_ble_eq_true rfl)
  rw [own_chn hn_4] at V53
  have N53 := Fr.snoc X53 N48 p3_g
  have K54 := K49.wr W53 (Or.inl (List.mem_of_getElem? (i := 0) rfl))
  have f55 := (f50.other W53 (Ne.symm p2_ne))
  obtain ⟨cl56, Ar56, qk56, qs56, qn56, qh56, qg56⟩ := id f55
  have hin56 : ¬ ((5 : Int32) < 0 ∨ cl56.slots.size ≤ ((5 : Int32)).toNatClampNeg) := inb_of qs56 ⟨by decide, by decide⟩
  have hat56 : cl56.slots[((5 : Int32)).toNatClampNeg]? = some (.int y5) := qh56.at hin56 rfl
  obtain ⟨cl57, Ar57, qk57, qs57, qn57, qh57, qg57⟩ := id V53
  have hin57 : ¬ ((19 : Int32) < 0 ∨ cl57.slots.size ≤ ((19 : Int32)).toNatClampNeg) := inb_of qs57 ⟨by decide, by decide⟩
  obtain ⟨T58, h58, X58, e58, W58, st58⟩ := stC X53 hx hZ e53 Ar57 (j := (19 : Int32)) hin57 (g := (mkF m 45 #[.val (.ref a0), .val (.int 14), .val (.ref a2)] [(.int y5), (.int 19), (.ref a0)])) rfl rfl (hb hby d2_45)
  have V58 : Arv Z h58 a0 k0 .char (25 : Int32) [(.int s0), (.int s1), (.int s2), (.int s3), (.int s4), (.int s5), (.int s6), (.int s7), (.int s8), (.int s9), (.int s10), (.int s11), (.int s12), (.int s13), (.int y0), (.int y1), (.int y2), (.int y3), (.int y4), (.int (y5.toUInt32.toUInt16.toUInt32.toInt32)), (.int s20), (.int s21), (.int s22), (.int s23), (.int s24)] (.int 0) := Arv.set Ar57 qk57 qs57 qn57 qh57 qg57 (fits_nar_char _) W58 19 rfl (Nat.le_of_ble_eq_true rfl)
  rw [own_chn hn_5] at V58
  have N58 := Fr.snoc X58 N53 p3_g
  have K59 := K54.wr W58 (Or.inl (List.mem_of_getElem? (i := 0) rfl))
  have f60 := (f55.other W58 (Ne.symm p2_ne))
  obtain ⟨cl61, Ar61, qk61, qs61, qn61, qh61, qg61⟩ := id f60
  have hin61 : ¬ ((6 : Int32) < 0 ∨ cl61.slots.size ≤ ((6 : Int32)).toNatClampNeg) := inb_of qs61 ⟨by decide, by decide⟩
  have hat61 : cl61.slots[((6 : Int32)).toNatClampNeg]? = some (.int y6) := qh61.at hin61 rfl
  obtain ⟨cl62, Ar62, qk62, qs62, qn62, qh62, qg62⟩ := id V58
  have hin62 : ¬ ((20 : Int32) < 0 ∨ cl62.slots.size ≤ ((20 : Int32)).toNatClampNeg) := inb_of qs62 ⟨by decide, by decide⟩
  obtain ⟨T63, h63, X63, e63, W63, st63⟩ := stC X58 hx hZ e58 Ar62 (j := (20 : Int32)) hin62 (g := (mkF m 55 #[.val (.ref a0), .val (.int 14), .val (.ref a2)] [(.int y6), (.int 20), (.ref a0)])) rfl rfl (hb hby d2_55)
  have V63 : Arv Z h63 a0 k0 .char (25 : Int32) [(.int s0), (.int s1), (.int s2), (.int s3), (.int s4), (.int s5), (.int s6), (.int s7), (.int s8), (.int s9), (.int s10), (.int s11), (.int s12), (.int s13), (.int y0), (.int y1), (.int y2), (.int y3), (.int y4), (.int y5), (.int (y6.toUInt32.toUInt16.toUInt32.toInt32)), (.int s21), (.int s22), (.int s23), (.int s24)] (.int 0) := Arv.set Ar62 qk62 qs62 qn62 qh62 qg62 (fits_nar_char _) W63 20 rfl (Nat.le_of_ble_eq_true rfl)
  rw [own_chn hn_6] at V63
  have N63 := Fr.snoc X63 N58 p3_g
  have K64 := K59.wr W63 (Or.inl (List.mem_of_getElem? (i := 0) rfl))
  have f65 := (f60.other W63 (Ne.symm p2_ne))
  obtain ⟨cl66, Ar66, qk66, qs66, qn66, qh66, qg66⟩ := id f65
  have hin66 : ¬ ((7 : Int32) < 0 ∨ cl66.slots.size ≤ ((7 : Int32)).toNatClampNeg) := inb_of qs66 ⟨by decide, by decide⟩
  have hat66 : cl66.slots[((7 : Int32)).toNatClampNeg]? = some (.int y7) := qh66.at hin66 rfl
  obtain ⟨cl67, Ar67, qk67, qs67, qn67, qh67, qg67⟩ := id V63
  have hin67 : ¬ ((21 : Int32) < 0 ∨ cl67.slots.size ≤ ((21 : Int32)).toNatClampNeg) := inb_of qs67 ⟨by decide, by decide⟩
  obtain ⟨T68, h68, X68, e68, W68, st68⟩ := stC X63 hx hZ e63 Ar67 (j := (21 : Int32)) hin67 (g := (mkF m 65 #[.val (.ref a0), .val (.int 14), .val (.ref a2)] [(.int y7), (.int 21), (.ref a0)])) rfl rfl (hb hby d2_65)
  have V68 : Arv Z h68 a0 k0 .char (25 : Int32) [(.int s0), (.int s1), (.int s2), (.int s3), (.int s4), (.int s5), (.int s6), (.int s7), (.int s8), (.int s9), (.int s10), (.int s11), (.int s12), (.int s13), (.int y0), (.int y1), (.int y2), (.int y3), (.int y4), (.int y5), (.int y6), (.int (y7.toUInt32.toUInt16.toUInt32.toInt32)), (.int s22), (.int s23), (.int s24)] (.int 0) := Arv.set Ar67 qk67 qs67 qn67 qh67 qg67 (fits_nar_char _) W68 21 rfl (Nat.le_of_ble_eq_true rfl)
  rw [own_chn hn_7] at V68
  have N68 := Fr.snoc X68 N63 p3_g
  have K69 := K64.wr W68 (Or.inl (List.mem_of_getElem? (i := 0) rfl))
  have f70 := (f65.other W68 (Ne.symm p2_ne))
  obtain ⟨cl71, Ar71, qk71, qs71, qn71, qh71, qg71⟩ := id f70
  have hin71 : ¬ ((8 : Int32) < 0 ∨ cl71.slots.size ≤ ((8 : Int32)).toNatClampNeg) := inb_of qs71 ⟨by decide, by decide⟩
  have hat71 : cl71.slots[((8 : Int32)).toNatClampNeg]? = some (.int y8) := qh71.at hin71 rfl
  obtain ⟨cl72, Ar72, qk72, qs72, qn72, qh72, qg72⟩ := id V68
  have hin72 : ¬ ((22 : Int32) < 0 ∨ cl72.slots.size ≤ ((22 : Int32)).toNatClampNeg) := inb_of qs72 ⟨by decide, by decide⟩
  obtain ⟨T73, h73, X73, e73, W73, st73⟩ := stC X68 hx hZ e68 Ar72 (j := (22 : Int32)) hin72 (g := (mkF m 75 #[.val (.ref a0), .val (.int 14), .val (.ref a2)] [(.int y8), (.int 22), (.ref a0)])) rfl rfl (hb hby d2_75)
  have V73 : Arv Z h73 a0 k0 .char (25 : Int32) [(.int s0), (.int s1), (.int s2), (.int s3), (.int s4), (.int s5), (.int s6), (.int s7), (.int s8), (.int s9), (.int s10), (.int s11), (.int s12), (.int s13), (.int y0), (.int y1), (.int y2), (.int y3), (.int y4), (.int y5), (.int y6), (.int y7), (.int (y8.toUInt32.toUInt16.toUInt32.toInt32)), (.int s23), (.int s24)] (.int 0) := Arv.set Ar72 qk72 qs72 qn72 qh72 qg72 (fits_nar_char _) W73 22 rfl (Nat.le_of_ble_eq_true rfl)
  rw [own_chn hn_8] at V73
  have N73 := Fr.snoc X73 N68 p3_g
  have K74 := K69.wr W73 (Or.inl (List.mem_of_getElem? (i := 0) rfl))
  have f75 := (f70.other W73 (Ne.symm p2_ne))
  obtain ⟨cl76, Ar76, -, qs76, qn76, -, -⟩ := id f75
  obtain ⟨cl77, Ar77, -, qs77, qn77, -, -⟩ := id f75
  obtain ⟨fs, hrL, hrun, hended, hW, hsame⟩ := X73.leave (v := some (.int 23)) (fun h => by rw [Bd.returns] at h; cases h)
  refine ⟨_, _, pre0 _ ?_, hrun, hended, _, _, rfl, ?_, ⟨_, rfl⟩, hW, hsame.mono (by decide) (by decide)⟩
  · show Steps p.tables e below (s₁.setTop (mkF m 0 #[.val (.ref a0), .val (.int 14), .val (.ref a2)] [])) _
    refine XS.aloadN X0.here hx rfl (hb hby d2_0) rfl rfl ?_
    refine XS.iloadN X0.here hx rfl (hb hby d2_1) rfl ?_
    refine XS.aloadN X0.here hx rfl (hb hby d2_2) rfl rfl ?_
    show Steps p.tables e below (s₁.setTop (mkF m 3 #[.val (.ref a0), .val (.int 14), .val (.ref a2)] [(.ref a2), (.int 14), (.ref a0)])) _
    refine XS.iconst X0.here hx rfl (hb hby d2_3) ?_
    show Steps p.tables e below (s₁.setTop (mkF m 4 #[.val (.ref a0), .val (.int 14), .val (.ref a2)] [(.int 0), (.ref a2), (.int 14), (.ref a0)])) _
    refine X0.caload hx (j := (0 : Int32)) (v := (.int y0)) (by rw [e0]; exact Ar31.1) (State.isArrayOf_alike hZ.alike Ar31.2.1) Ar31.2.2 hin31 hat31 (g := (mkF m 4 #[.val (.ref a0), .val (.int 14), .val (.ref a2)] [(.int 0), (.ref a2), (.int 14), (.ref a0)])) rfl rfl (hb hby d2_4) _ ?_
    show Steps p.tables e below (s₁.setTop (mkF m 5 #[.val (.ref a0), .val (.int 14), .val (.ref a2)] [(.int y0), (.int 14), (.ref a0)])) _
    refine st33 _ ?_
    refine XS.aloadN X33.here hx rfl (hb hby d2_6) rfl rfl ?_
    show Steps p.tables e below (T33.setTop (mkF m 7 #[.val (.ref a0), .val (.int 14), .val (.ref a2)] [(.ref a0)])) _
    refine XS.iloadN X33.here hx rfl (hb hby d2_7) rfl ?_
    refine XS.iconst X33.here hx rfl (hb hby d2_8) ?_
    show Steps p.tables e below (T33.setTop (mkF m 9 #[.val (.ref a0), .val (.int 14), .val (.ref a2)] [(.int 1), (.int 14), (.ref a0)])) _
    refine XS.iadd X33.here hx rfl (hb hby d2_9) rfl ?_
    show Steps p.tables e below (T33.setTop (mkF m 10 #[.val (.ref a0), .val (.int 14), .val (.ref a2)] [(.int ((14 : Int32) + (1 : Int32))), (.ref a0)])) _
    rw [show ((14 : Int32) + (1 : Int32)) = (15 : Int32) from by decide]
    refine XS.aloadN X33.here hx rfl (hb hby d2_10) rfl rfl ?_
    show Steps p.tables e below (T33.setTop (mkF m 11 #[.val (.ref a0), .val (.int 14), .val (.ref a2)] [(.ref a2), (.int 15), (.ref a0)])) _
    refine XS.iconst X33.here hx rfl (hb hby d2_11) ?_
    show Steps p.tables e below (T33.setTop (mkF m 12 #[.val (.ref a0), .val (.int 14), .val (.ref a2)] [(.int 1), (.ref a2), (.int 15), (.ref a0)])) _
    refine X33.caload hx (j := (1 : Int32)) (v := (.int y1)) (by rw [e33]; exact Ar36.1) (State.isArrayOf_alike hZ.alike Ar36.2.1) Ar36.2.2 hin36 hat36 (g := (mkF m 12 #[.val (.ref a0), .val (.int 14), .val (.ref a2)] [(.int 1), (.ref a2), (.int 15), (.ref a0)])) rfl rfl (hb hby d2_12) _ ?_
    show Steps p.tables e below (T33.setTop (mkF m 13 #[.val (.ref a0), .val (.int 14), .val (.ref a2)] [(.int y1), (.int 15), (.ref a0)])) _
    refine st38 _ ?_
    refine XS.aloadN X38.here hx rfl (hb hby d2_14) rfl rfl ?_
    show Steps p.tables e below (T38.setTop (mkF m 15 #[.val (.ref a0), .val (.int 14), .val (.ref a2)] [(.ref a0)])) _
    refine XS.iloadN X38.here hx rfl (hb hby d2_15) rfl ?_
    refine XS.iconst X38.here hx rfl (hb hby d2_16) ?_
    show Steps p.tables e below (T38.setTop (mkF m 17 #[.val (.ref a0), .val (.int 14), .val (.ref a2)] [(.int 2), (.int 14), (.ref a0)])) _
    refine XS.iadd X38.here hx rfl (hb hby d2_17) rfl ?_
    show Steps p.tables e below (T38.setTop (mkF m 18 #[.val (.ref a0), .val (.int 14), .val (.ref a2)] [(.int ((14 : Int32) + (2 : Int32))), (.ref a0)])) _
    rw [show ((14 : Int32) + (2 : Int32)) = (16 : Int32) from by decide]
    refine XS.aloadN X38.here hx rfl (hb hby d2_18) rfl rfl ?_
    show Steps p.tables e below (T38.setTop (mkF m 19 #[.val (.ref a0), .val (.int 14), .val (.ref a2)] [(.ref a2), (.int 16), (.ref a0)])) _
    refine XS.iconst X38.here hx rfl (hb hby d2_19) ?_
    show Steps p.tables e below (T38.setTop (mkF m 20 #[.val (.ref a0), .val (.int 14), .val (.ref a2)] [(.int 2), (.ref a2), (.int 16), (.ref a0)])) _
    refine X38.caload hx (j := (2 : Int32)) (v := (.int y2)) (by rw [e38]; exact Ar41.1) (State.isArrayOf_alike hZ.alike Ar41.2.1) Ar41.2.2 hin41 hat41 (g := (mkF m 20 #[.val (.ref a0), .val (.int 14), .val (.ref a2)] [(.int 2), (.ref a2), (.int 16), (.ref a0)])) rfl rfl (hb hby d2_20) _ ?_
    show Steps p.tables e below (T38.setTop (mkF m 21 #[.val (.ref a0), .val (.int 14), .val (.ref a2)] [(.int y2), (.int 16), (.ref a0)])) _
    refine st43 _ ?_
    refine XS.aloadN X43.here hx rfl (hb hby d2_22) rfl rfl ?_
    show Steps p.tables e below (T43.setTop (mkF m 23 #[.val (.ref a0), .val (.int 14), .val (.ref a2)] [(.ref a0)])) _
    refine XS.iloadN X43.here hx rfl (hb hby d2_23) rfl ?_
    refine XS.iconst X43.here hx rfl (hb hby d2_24) ?_
    show Steps p.tables e below (T43.setTop (mkF m 25 #[.val (.ref a0), .val (.int 14), .val (.ref a2)] [(.int 3), (.int 14), (.ref a0)])) _
    refine XS.iadd X43.here hx rfl (hb hby d2_25) rfl ?_
    show Steps p.tables e below (T43.setTop (mkF m 26 #[.val (.ref a0), .val (.int 14), .val (.ref a2)] [(.int ((14 : Int32) + (3 : Int32))), (.ref a0)])) _
    rw [show ((14 : Int32) + (3 : Int32)) = (17 : Int32) from by decide]
    refine XS.aloadN X43.here hx rfl (hb hby d2_26) rfl rfl ?_
    show Steps p.tables e below (T43.setTop (mkF m 27 #[.val (.ref a0), .val (.int 14), .val (.ref a2)] [(.ref a2), (.int 17), (.ref a0)])) _
    refine XS.iconst X43.here hx rfl (hb hby d2_27) ?_
    show Steps p.tables e below (T43.setTop (mkF m 28 #[.val (.ref a0), .val (.int 14), .val (.ref a2)] [(.int 3), (.ref a2), (.int 17), (.ref a0)])) _
    refine X43.caload hx (j := (3 : Int32)) (v := (.int y3)) (by rw [e43]; exact Ar46.1) (State.isArrayOf_alike hZ.alike Ar46.2.1) Ar46.2.2 hin46 hat46 (g := (mkF m 28 #[.val (.ref a0), .val (.int 14), .val (.ref a2)] [(.int 3), (.ref a2), (.int 17), (.ref a0)])) rfl rfl (hb hby d2_28) _ ?_
    show Steps p.tables e below (T43.setTop (mkF m 29 #[.val (.ref a0), .val (.int 14), .val (.ref a2)] [(.int y3), (.int 17), (.ref a0)])) _
    refine st48 _ ?_
    refine XS.aloadN X48.here hx rfl (hb hby d2_30) rfl rfl ?_
    show Steps p.tables e below (T48.setTop (mkF m 31 #[.val (.ref a0), .val (.int 14), .val (.ref a2)] [(.ref a0)])) _
    refine XS.iloadN X48.here hx rfl (hb hby d2_31) rfl ?_
    refine XS.iconst X48.here hx rfl (hb hby d2_32) ?_
    show Steps p.tables e below (T48.setTop (mkF m 33 #[.val (.ref a0), .val (.int 14), .val (.ref a2)] [(.int 4), (.int 14), (.ref a0)])) _
    refine XS.iadd X48.here hx rfl (hb hby d2_33) rfl ?_
    show Steps p.tables e below (T48.setTop (mkF m 34 #[.val (.ref a0), .val (.int 14), .val (.ref a2)] [(.int ((14 : Int32) + (4 : Int32))), (.ref a0)])) _
    rw [show ((14 : Int32) + (4 : Int32)) = (18 : Int32) from by decide]
    refine XS.aloadN X48.here hx rfl (hb hby d2_34) rfl rfl ?_
    show Steps p.tables e below (T48.setTop (mkF m 35 #[.val (.ref a0), .val (.int 14), .val (.ref a2)] [(.ref a2), (.int 18), (.ref a0)])) _
    refine XS.iconst X48.here hx rfl (hb hby d2_35) ?_
    show Steps p.tables e below (T48.setTop (mkF m 36 #[.val (.ref a0), .val (.int 14), .val (.ref a2)] [(.int 4), (.ref a2), (.int 18), (.ref a0)])) _
    refine X48.caload hx (j := (4 : Int32)) (v := (.int y4)) (by rw [e48]; exact Ar51.1) (State.isArrayOf_alike hZ.alike Ar51.2.1) Ar51.2.2 hin51 hat51 (g := (mkF m 36 #[.val (.ref a0), .val (.int 14), .val (.ref a2)] [(.int 4), (.ref a2), (.int 18), (.ref a0)])) rfl rfl (hb hby d2_36) _ ?_
    show Steps p.tables e below (T48.setTop (mkF m 37 #[.val (.ref a0), .val (.int 14), .val (.ref a2)] [(.int y4), (.int 18), (.ref a0)])) _
    refine st53 _ ?_
    refine XS.aloadN X53.here hx rfl (hb hby d2_38) rfl rfl ?_
    show Steps p.tables e below (T53.setTop (mkF m 39 #[.val (.ref a0), .val (.int 14), .val (.ref a2)] [(.ref a0)])) _
    refine XS.iloadN X53.here hx rfl (hb hby d2_39) rfl ?_
    refine XS.iconst X53.here hx rfl (hb hby d2_40) ?_
    show Steps p.tables e below (T53.setTop (mkF m 41 #[.val (.ref a0), .val (.int 14), .val (.ref a2)] [(.int 5), (.int 14), (.ref a0)])) _
    refine XS.iadd X53.here hx rfl (hb hby d2_41) rfl ?_
    show Steps p.tables e below (T53.setTop (mkF m 42 #[.val (.ref a0), .val (.int 14), .val (.ref a2)] [(.int ((14 : Int32) + (5 : Int32))), (.ref a0)])) _
    rw [show ((14 : Int32) + (5 : Int32)) = (19 : Int32) from by decide]
    refine XS.aloadN X53.here hx rfl (hb hby d2_42) rfl rfl ?_
    show Steps p.tables e below (T53.setTop (mkF m 43 #[.val (.ref a0), .val (.int 14), .val (.ref a2)] [(.ref a2), (.int 19), (.ref a0)])) _
    refine XS.iconst X53.here hx rfl (hb hby d2_43) ?_
    show Steps p.tables e below (T53.setTop (mkF m 44 #[.val (.ref a0), .val (.int 14), .val (.ref a2)] [(.int 5), (.ref a2), (.int 19), (.ref a0)])) _
    refine X53.caload hx (j := (5 : Int32)) (v := (.int y5)) (by rw [e53]; exact Ar56.1) (State.isArrayOf_alike hZ.alike Ar56.2.1) Ar56.2.2 hin56 hat56 (g := (mkF m 44 #[.val (.ref a0), .val (.int 14), .val (.ref a2)] [(.int 5), (.ref a2), (.int 19), (.ref a0)])) rfl rfl (hb hby d2_44) _ ?_
    show Steps p.tables e below (T53.setTop (mkF m 45 #[.val (.ref a0), .val (.int 14), .val (.ref a2)] [(.int y5), (.int 19), (.ref a0)])) _
    refine st58 _ ?_
    refine XS.aloadN X58.here hx rfl (hb hby d2_46) rfl rfl ?_
    show Steps p.tables e below (T58.setTop (mkF m 47 #[.val (.ref a0), .val (.int 14), .val (.ref a2)] [(.ref a0)])) _
    refine XS.iloadN X58.here hx rfl (hb hby d2_47) rfl ?_
    refine XS.bipush X58.here hx rfl (hb hby d2_48) ?_
    show Steps p.tables e below (T58.setTop (mkF m 50 #[.val (.ref a0), .val (.int 14), .val (.ref a2)] [(.int 6), (.int 14), (.ref a0)])) _
    refine XS.iadd X58.here hx rfl (hb hby d2_50) rfl ?_
    show Steps p.tables e below (T58.setTop (mkF m 51 #[.val (.ref a0), .val (.int 14), .val (.ref a2)] [(.int ((14 : Int32) + (6 : Int32))), (.ref a0)])) _
    rw [show ((14 : Int32) + (6 : Int32)) = (20 : Int32) from by decide]
    refine XS.aloadN X58.here hx rfl (hb hby d2_51) rfl rfl ?_
    show Steps p.tables e below (T58.setTop (mkF m 52 #[.val (.ref a0), .val (.int 14), .val (.ref a2)] [(.ref a2), (.int 20), (.ref a0)])) _
    refine XS.bipush X58.here hx rfl (hb hby d2_52) ?_
    show Steps p.tables e below (T58.setTop (mkF m 54 #[.val (.ref a0), .val (.int 14), .val (.ref a2)] [(.int 6), (.ref a2), (.int 20), (.ref a0)])) _
    refine X58.caload hx (j := (6 : Int32)) (v := (.int y6)) (by rw [e58]; exact Ar61.1) (State.isArrayOf_alike hZ.alike Ar61.2.1) Ar61.2.2 hin61 hat61 (g := (mkF m 54 #[.val (.ref a0), .val (.int 14), .val (.ref a2)] [(.int 6), (.ref a2), (.int 20), (.ref a0)])) rfl rfl (hb hby d2_54) _ ?_
    show Steps p.tables e below (T58.setTop (mkF m 55 #[.val (.ref a0), .val (.int 14), .val (.ref a2)] [(.int y6), (.int 20), (.ref a0)])) _
    refine st63 _ ?_
    refine XS.aloadN X63.here hx rfl (hb hby d2_56) rfl rfl ?_
    show Steps p.tables e below (T63.setTop (mkF m 57 #[.val (.ref a0), .val (.int 14), .val (.ref a2)] [(.ref a0)])) _
    refine XS.iloadN X63.here hx rfl (hb hby d2_57) rfl ?_
    refine XS.bipush X63.here hx rfl (hb hby d2_58) ?_
    show Steps p.tables e below (T63.setTop (mkF m 60 #[.val (.ref a0), .val (.int 14), .val (.ref a2)] [(.int 7), (.int 14), (.ref a0)])) _
    refine XS.iadd X63.here hx rfl (hb hby d2_60) rfl ?_
    show Steps p.tables e below (T63.setTop (mkF m 61 #[.val (.ref a0), .val (.int 14), .val (.ref a2)] [(.int ((14 : Int32) + (7 : Int32))), (.ref a0)])) _
    rw [show ((14 : Int32) + (7 : Int32)) = (21 : Int32) from by decide]
    refine XS.aloadN X63.here hx rfl (hb hby d2_61) rfl rfl ?_
    show Steps p.tables e below (T63.setTop (mkF m 62 #[.val (.ref a0), .val (.int 14), .val (.ref a2)] [(.ref a2), (.int 21), (.ref a0)])) _
    refine XS.bipush X63.here hx rfl (hb hby d2_62) ?_
    show Steps p.tables e below (T63.setTop (mkF m 64 #[.val (.ref a0), .val (.int 14), .val (.ref a2)] [(.int 7), (.ref a2), (.int 21), (.ref a0)])) _
    refine X63.caload hx (j := (7 : Int32)) (v := (.int y7)) (by rw [e63]; exact Ar66.1) (State.isArrayOf_alike hZ.alike Ar66.2.1) Ar66.2.2 hin66 hat66 (g := (mkF m 64 #[.val (.ref a0), .val (.int 14), .val (.ref a2)] [(.int 7), (.ref a2), (.int 21), (.ref a0)])) rfl rfl (hb hby d2_64) _ ?_
    show Steps p.tables e below (T63.setTop (mkF m 65 #[.val (.ref a0), .val (.int 14), .val (.ref a2)] [(.int y7), (.int 21), (.ref a0)])) _
    refine st68 _ ?_
    refine XS.aloadN X68.here hx rfl (hb hby d2_66) rfl rfl ?_
    show Steps p.tables e below (T68.setTop (mkF m 67 #[.val (.ref a0), .val (.int 14), .val (.ref a2)] [(.ref a0)])) _
    refine XS.iloadN X68.here hx rfl (hb hby d2_67) rfl ?_
    refine XS.bipush X68.here hx rfl (hb hby d2_68) ?_
    show Steps p.tables e below (T68.setTop (mkF m 70 #[.val (.ref a0), .val (.int 14), .val (.ref a2)] [(.int 8), (.int 14), (.ref a0)])) _
    refine XS.iadd X68.here hx rfl (hb hby d2_70) rfl ?_
    show Steps p.tables e below (T68.setTop (mkF m 71 #[.val (.ref a0), .val (.int 14), .val (.ref a2)] [(.int ((14 : Int32) + (8 : Int32))), (.ref a0)])) _
    rw [show ((14 : Int32) + (8 : Int32)) = (22 : Int32) from by decide]
    refine XS.aloadN X68.here hx rfl (hb hby d2_71) rfl rfl ?_
    show Steps p.tables e below (T68.setTop (mkF m 72 #[.val (.ref a0), .val (.int 14), .val (.ref a2)] [(.ref a2), (.int 22), (.ref a0)])) _
    refine XS.bipush X68.here hx rfl (hb hby d2_72) ?_
    show Steps p.tables e below (T68.setTop (mkF m 74 #[.val (.ref a0), .val (.int 14), .val (.ref a2)] [(.int 8), (.ref a2), (.int 22), (.ref a0)])) _
    refine X68.caload hx (j := (8 : Int32)) (v := (.int y8)) (by rw [e68]; exact Ar71.1) (State.isArrayOf_alike hZ.alike Ar71.2.1) Ar71.2.2 hin71 hat71 (g := (mkF m 74 #[.val (.ref a0), .val (.int 14), .val (.ref a2)] [(.int 8), (.ref a2), (.int 22), (.ref a0)])) rfl rfl (hb hby d2_74) _ ?_
    show Steps p.tables e below (T68.setTop (mkF m 75 #[.val (.ref a0), .val (.int 14), .val (.ref a2)] [(.int y8), (.int 22), (.ref a0)])) _
    refine st73 _ ?_
    refine XS.aloadN X73.here hx rfl (hb hby d2_76) rfl rfl ?_
    show Steps p.tables e below (T73.setTop (mkF m 77 #[.val (.ref a0), .val (.int 14), .val (.ref a2)] [(.ref a2)])) _
    refine X73.arraylength hx (by rw [e73]; exact Ar76.1) (State.isArrayOf_alike hZ.alike Ar76.2.1) (g := (mkF m 77 #[.val (.ref a0), .val (.int 14), .val (.ref a2)] [(.ref a2)])) rfl rfl (hb hby d2_77) _ ?_
    rw [len_of qs76 qn76]
    refine XS.bipush X73.here hx rfl (hb hby d2_78) ?_
    show Steps p.tables e below (T73.setTop (mkF m 80 #[.val (.ref a0), .val (.int 14), .val (.ref a2)] [(.int 10), (.int 9)])) _
    refine XS.icmpYes X73.here hx rfl (pc0 := 80) (pc' := 93) rfl (hb hby d2_80) rfl (feq (by decide : ¬ ((9 : Int32) = (10 : Int32)))).2 (by decide) (by decide) ?_
    refine XS.iloadN X73.here hx rfl (hb hby d2_93) rfl ?_
    show Steps p.tables e below (T73.setTop (mkF m 94 #[.val (.ref a0), .val (.int 14), .val (.ref a2)] [(.int 14)])) _
    refine XS.aloadN X73.here hx rfl (hb hby d2_94) rfl rfl ?_
    show Steps p.tables e below (T73.setTop (mkF m 95 #[.val (.ref a0), .val (.int 14), .val (.ref a2)] [(.ref a2), (.int 14)])) _
    refine X73.arraylength hx (by rw [e73]; exact Ar77.1) (State.isArrayOf_alike hZ.alike Ar77.2.1) (g := (mkF m 95 #[.val (.ref a0), .val (.int 14), .val (.ref a2)] [(.ref a2), (.int 14)])) rfl rfl (hb hby d2_95) _ ?_
    rw [len_of qs77 qn77]
    show Steps p.tables e below (T73.setTop (mkF m 96 #[.val (.ref a0), .val (.int 14), .val (.ref a2)] [(.int 9), (.int 14)])) _
    refine XS.iadd X73.here hx rfl (hb hby d2_96) rfl ?_
    show Steps p.tables e below (T73.setTop (mkF m 97 #[.val (.ref a0), .val (.int 14), .val (.ref a2)] [(.int ((14 : Int32) + (9 : Int32)))])) _
    rw [show ((14 : Int32) + (9 : Int32)) = (23 : Int32) from by decide]
    show Steps p.tables e below (T73.setTop (mkF m 97 #[.val (.ref a0), .val (.int 14), .val (.ref a2)] [(.int 23)])) _
    exact retI X73 hx Bd.returns (hb hby d2_97) hrL
  · show Q_place_14_9 _ _ _ _ _ _ _ _ _ _ _ _ _ _ _ _ _ _ _ _ _ _ _ _ _ _ _ _ _ _ _ _ _ _ _ _ _ _ _ _ _ _  T73.heap _
    rw [e73]
    exact ⟨rfl, N73, K74, V73⟩
theorem d7_0 : decode jdk_52_method_21_code 0 = .ok (.iconst 0, 1) := by decide +kernel
theorem d7_1 : decode jdk_52_method_21_code 1 = .ok (.istore 5, 2) := by decide +kernel
theorem d7_3 : decode jdk_52_method_21_code 3 = .ok (.iload 5, 2) := by decide +kernel
theorem d7_5 : decode jdk_52_method_21_code 5 = .ok (.iload 4, 2) := by decide +kernel
theorem d7_7 : decode jdk_52_method_21_code 7 = .ok (.if_icmp .ge 37, 3) := by decide +kernel
theorem d7_10 : decode jdk_52_method_21_code 10 = .ok (.aload_n 0, 1) := by decide +kernel
theorem d7_11 : decode jdk_52_method_21_code 11 = .ok (.iload_n 1, 1) := by decide +kernel
theorem d7_12 : decode jdk_52_method_21_code 12 = .ok (.caload, 1) := by decide +kernel
theorem d7_13 : decode jdk_52_method_21_code 13 = .ok (.istore 6, 2) := by decide +kernel
theorem d7_15 : decode jdk_52_method_21_code 15 = .ok (.iload 6, 2) := by decide +kernel
theorem d7_17 : decode jdk_52_method_21_code 17 = .ok (.sipush 255, 3) := by decide +kernel
theorem d7_20 : decode jdk_52_method_21_code 20 = .ok (.if_icmp .le 6, 3) := by decide +kernel
theorem d7_26 : decode jdk_52_method_21_code 26 = .ok (.aload_n 2, 1) := by decide +kernel
theorem d7_27 : decode jdk_52_method_21_code 27 = .ok (.iload_n 3, 1) := by decide +kernel
theorem d7_28 : decode jdk_52_method_21_code 28 = .ok (.iload 6, 2) := by decide +kernel
theorem d7_30 : decode jdk_52_method_21_code 30 = .ok (.i2b, 1) := by decide +kernel
theorem d7_31 : decode jdk_52_method_21_code 31 = .ok (.bastore, 1) := by decide +kernel
theorem d7_32 : decode jdk_52_method_21_code 32 = .ok (.iinc 1 1, 3) := by decide +kernel
theorem d7_35 : decode jdk_52_method_21_code 35 = .ok (.iinc 3 1, 3) := by decide +kernel
theorem d7_38 : decode jdk_52_method_21_code 38 = .ok (.iinc 5 1, 3) := by decide +kernel
theorem d7_41 : decode jdk_52_method_21_code 41 = .ok (.goto (-38), 3) := by decide +kernel
theorem d7_44 : decode jdk_52_method_21_code 44 = .ok (.iload 4, 2) := by decide +kernel
theorem d7_46 : decode jdk_52_method_21_code 46 = .ok (.ireturn, 1) := by decide +kernel
theorem pn_java_lang_StringUTF16 : plainName "java/lang/StringUTF16" = true := by first | (simp [plainName, overriddenIn]; done) | decide +kernel
theorem ef_cmp25 (m : MethodId) (a0 : Addr) (a2 : Addr) : entryFrame m #[(.ref a0), (.int 0), (.ref a2), (.int 0), (.int 25)] 7 = mkF m 0 #[.val (.ref a0), .val (.int 0), .val (.ref a2), .val (.int 0), .val (.int 25), .unset, .unset] [] := by first | (simp [entryFrame, mkF, argsToLocals, Value.category]; done) | rfl
def Q_cmp25 (Z : State) (a0 : Addr) (a2 : Addr) (c0 : Int32) (c1 : Int32) (c2 : Int32) (c3 : Int32) (c4 : Int32) (c5 : Int32) (c6 : Int32) (c7 : Int32) (c8 : Int32) (c9 : Int32) (c10 : Int32) (c11 : Int32) (c12 : Int32) (c13 : Int32) (c14 : Int32) (c15 : Int32) (c16 : Int32) (c17 : Int32) (c18 : Int32) (c19 : Int32) (c20 : Int32) (c21 : Int32) (c22 : Int32) (c23 : Int32) (c24 : Int32) (k0 : ClassId) (k2 : ClassId) (h0 : Heap) (n0 : Nat) (v : Option Value) (h : Heap) (L : List Loc) : Prop := v = some (.int 25) ∧ Fr n0 L ∧ Keep h0 h [a2] ∧ Arv Z h a2 k2 .byte (25 : Int32) [(.int (c0.toInt8.toInt32)), (.int (c1.toInt8.toInt32)), (.int (c2.toInt8.toInt32)), (.int (c3.toInt8.toInt32)), (.int (c4.toInt8.toInt32)), (.int (c5.toInt8.toInt32)), (.int (c6.toInt8.toInt32)), (.int (c7.toInt8.toInt32)), (.int (c8.toInt8.toInt32)), (.int (c9.toInt8.toInt32)), (.int (c10.toInt8.toInt32)), (.int (c11.toInt8.toInt32)), (.int (c12.toInt8.toInt32)), (.int (c13.toInt8.toInt32)), (.int (c14.toInt8.toInt32)), (.int (c15.toInt8.toInt32)), (.int (c16.toInt8.toInt32)), (.int (c17.toInt8.toInt32)), (.int (c18.toInt8.toInt32)), (.int (c19.toInt8.toInt32)), (.int (c20.toInt8.toInt32)), (.int (c21.toInt8.toInt32)), (.int (c22.toInt8.toInt32)), (.int (c23.toInt8.toInt32)), (.int (c24.toInt8.toInt32))] (.int 0)
set_option maxRecDepth 65536 in
set_option maxHeartbeats 40000000 in
theorem cmp25 (l : Launch) (Z : State) (av0 : Array Value) (hw : ∀ d ∈ tables_1, d.before av0 Z = true) (ws : List Jvm.Cond) (a0 : Addr) (a2 : Addr) (c0 : Int32) (c1 : Int32) (c2 : Int32) (c3 : Int32) (c4 : Int32) (c5 : Int32) (c6 : Int32) (c7 : Int32) (c8 : Int32) (c9 : Int32) (c10 : Int32) (c11 : Int32) (c12 : Int32) (c13 : Int32) (c14 : Int32) (c15 : Int32) (c16 : Int32) (c17 : Int32) (c18 : Int32) (c19 : Int32) (c20 : Int32) (c21 : Int32) (c22 : Int32) (c23 : Int32) (c24 : Int32) (k0 : ClassId) (k2 : ClassId) (h0 : Heap) (n0 : Nat) (Z0 : n0 ≤ h0.size) (p0_A : Arv Z h0 a0 k0 .char (25 : Int32) [(.int c0), (.int c1), (.int c2), (.int c3), (.int c4), (.int c5), (.int c6), (.int c7), (.int c8), (.int c9), (.int c10), (.int c11), (.int c12), (.int c13), (.int c14), (.int c15), (.int c16), (.int c17), (.int c18), (.int c19), (.int c20), (.int c21), (.int c22), (.int c23), (.int c24)] (.int 0)) (p1_A : Arv Z h0 a2 k2 .byte (25 : Int32) [(.int 0), (.int 0), (.int 0), (.int 0), (.int 0), (.int 0), (.int 0), (.int 0), (.int 0), (.int 0), (.int 0), (.int 0), (.int 0), (.int 0), (.int 0), (.int 0), (.int 0), (.int 0), (.int 0), (.int 0), (.int 0), (.int 0), (.int 0), (.int 0), (.int 0)] (.int 0)) (p2_ne : a0 ≠ a2) (p3_g : n0 ≤ a2) (hc_0 : ¬ ((255 : Int32) < c0)) (hc_1 : ¬ ((255 : Int32) < c1)) (hc_2 : ¬ ((255 : Int32) < c2)) (hc_3 : ¬ ((255 : Int32) < c3)) (hc_4 : ¬ ((255 : Int32) < c4)) (hc_5 : ¬ ((255 : Int32) < c5)) (hc_6 : ¬ ((255 : Int32) < c6)) (hc_7 : ¬ ((255 : Int32) < c7)) (hc_8 : ¬ ((255 : Int32) < c8)) (hc_9 : ¬ ((255 : Int32) < c9)) (hc_10 : ¬ ((255 : Int32) < c10)) (hc_11 : ¬ ((255 : Int32) < c11)) (hc_12 : ¬ ((255 : Int32) < c12)) (hc_13 : ¬ ((255 : Int32) < c13)) (hc_14 : ¬ ((255 : Int32) < c14)) (hc_15 : ¬ ((255 : Int32) < c15)) (hc_16 : ¬ ((255 : Int32) < c16)) (hc_17 : ¬ ((255 : Int32) < c17)) (hc_18 : ¬ ((255 : Int32) < c18)) (hc_19 : ¬ ((255 : Int32) < c19)) (hc_20 : ¬ ((255 : Int32) < c20)) (hc_21 : ¬ ((255 : Int32) < c21)) (hc_22 : ¬ ((255 : Int32) < c22)) (hc_23 : ¬ ((255 : Int32) < c23)) (hc_24 : ¬ ((255 : Int32) < c24)) :
    MetFree l (⟨"java/lang/StringUTF16", "compress", "([CI[BII)I"⟩ : MethodName) (head1 (Jvm.Cond.code (⟨"java/lang/StringUTF16", "compress", "([CI[BII)I"⟩ : MethodName) jdk_52_method_21_code 7 (some .int) :: ws) ({ frames := 0, cells := 0, slots := 0, locals := 0 } : Room)) (fun a U => a = #[(.ref a0), (.int 0), (.ref a2), (.int 0), (.int 25)] ∧ Z.Warmed39 U.vm ∧ U.heap = h0) (fun _ _ _ _ _ => True) (fun _ U o U' => ∃ v L, o = .returned v ∧ Q_cmp25 Z a0 a2 c0 c1 c2 c3 c4 c5 c6 c7 c8 c9 c10 c11 c12 c13 c14 c15 c16 c17 c18 c19 c20 c21 c22 c23 c24 k0 k2 h0 n0 v U'.heap L ∧ FrameEnd U o U' L ({ frames := 0, cells := 0, slots := 0, locals := 0 } : Room).cells ({ frames := 0, cells := 0, slots := 0, locals := 0 } : Room).slots) := by
  refine MetFree.of_bodySF (plainFor_of_name pn_java_lang_StringUTF16) hisR ?_
  intro p e s m args below meth c s₁ Bd hml0 hP hK
  obtain ⟨rfl, hZ, hh⟩ := hP
  have hx := Bd.exec
  have hby := Bd.bytes
  have hml : c.maxLocals = 7 := hml0
  have hown : s.vm.findClass "java/lang/StringUTF16" = some m.cls := findClass_of_methodNamed Bd.named
  have hnm := (name_of_methodNamed Bd.named Bd.method).1
  have X0 : Stand p l e ({ frames := 0, cells := 0, slots := 0, locals := 0 } : Room) s m #[(.ref a0), (.int 0), (.ref a2), (.int 0), (.int 25)] below meth c s₁ [] 0 0 := Stand.of_body Bd
  have e0 : s₁.heap = h0 := by rw [← hh, Bd.state]; rfl
  have N0 := Fr.nil n0
  have pre0 : ∀ tz_, Steps p.tables e below (s₁.setTop (mkF m 0 #[.val (.ref a0), .val (.int 0), .val (.ref a2), .val (.int 0), .val (.int 25), .unset, .unset] [])) tz_ → Steps p.tables e below (s₁.setTop (entryFrame m #[(.ref a0), (.int 0), (.ref a2), (.int 0), (.int 25)] 7)) tz_ := fun tz_ kz_ => castTop (ef_cmp25 m a0 a2) kz_
  have K0 : Keep h0 h0 [a2] := Keep.refl h0 [a2]
  obtain ⟨cl31, Ar31, qk31, qs31, qn31, qh31, qg31⟩ := id p0_A
  have hin31 : ¬ ((0 : Int32) < 0 ∨ cl31.slots.size ≤ ((0 : Int32)).toNatClampNeg) := inb_of qs31 ⟨by decide, by decide⟩
  have hat31 : cl31.slots[((0 : Int32)).toNatClampNeg]? = some (.int c0) := qh31.at hin31 rfl
  obtain ⟨cl32, Ar32, qk32, qs32, qn32, qh32, qg32⟩ := id p1_A
  have hin32 : ¬ ((0 : Int32) < 0 ∨ cl32.slots.size ≤ ((0 : Int32)).toNatClampNeg) := inb_of qs32 ⟨by decide, by decide⟩
  obtain ⟨T33, h33, X33, e33, W33, st33⟩ := stB X0 hx hZ e0 Ar32 (j := (0 : Int32)) hin32 (g := (mkF m 31 #[.val (.ref a0), .val (.int 0), .val (.ref a2), .val (.int 0), .val (.int 25), .val (.int 0), .val (.int c0)] [(.int (c0.toInt8.toInt32)), (.int 0), (.ref a2)])) rfl rfl (hb hby d7_31)
  have V33 : Arv Z h33 a2 k2 .byte (25 : Int32) [(.int ((c0.toInt8.toInt32).toInt8.toInt32)), (.int 0), (.int 0), (.int 0), (.int 0), (.int 0), (.int 0), (.int 0), (.int 0), (.int 0), (.int 0), (.int 0), (.int 0), (.int 0), (.int 0), (.int 0), (.int 0), (.int 0), (.int 0), (.int 0), (.int 0), (.int 0), (.int 0), (.int 0), (.int 0)] (.int 0) := Arv.set Ar32 qk32 qs32 qn32 qh32 qg32 (fits_nar_byte _) W33 0 rfl (Nat.le_of_ble_eq_true rfl)
  rw [own_b8] at V33
  have N33 := Fr.snoc X33 N0 p3_g
  have K34 := K0.wr W33 (Or.inl (List.mem_of_getElem? (i := 0) rfl))
  have f35 := (p0_A.other W33 p2_ne)
  obtain ⟨cl36, Ar36, qk36, qs36, qn36, qh36, qg36⟩ := id f35
  have hin36 : ¬ ((1 : Int32) < 0 ∨ cl36.slots.size ≤ ((1 : Int32)).toNatClampNeg) := inb_of qs36 ⟨by decide, by decide⟩
  have hat36 : cl36.slots[((1 : Int32)).toNatClampNeg]? = some (.int c1) := qh36.at hin36 rfl
  obtain ⟨cl37, Ar37, qk37, qs37, qn37, qh37, qg37⟩ := id V33
  have hin37 : ¬ ((1 : Int32) < 0 ∨ cl37.slots.size ≤ ((1 : Int32)).toNatClampNeg) := inb_of qs37 ⟨by decide, by decide⟩
  obtain ⟨T38, h38, X38, e38, W38, st38⟩ := stB X33 hx hZ e33 Ar37 (j := (1 : Int32)) hin37 (g := (mkF m 31 #[.val (.ref a0), .val (.int 1), .val (.ref a2), .val (.int 1), .val (.int 25), .val (.int 1), .val (.int c1)] [(.int (c1.toInt8.toInt32)), (.int 1), (.ref a2)])) rfl rfl (hb hby d7_31)
  have V38 : Arv Z h38 a2 k2 .byte (25 : Int32) [(.int (c0.toInt8.toInt32)), (.int ((c1.toInt8.toInt32).toInt8.toInt32)), (.int 0), (.int 0), (.int 0), (.int 0), (.int 0), (.int 0), (.int 0), (.int 0), (.int 0), (.int 0), (.int 0), (.int 0), (.int 0), (.int 0), (.int 0), (.int 0), (.int 0), (.int 0), (.int 0), (.int 0), (.int 0), (.int 0), (.int 0)] (.int 0) := Arv.set Ar37 qk37 qs37 qn37 qh37 qg37 (fits_nar_byte _) W38 1 rfl (Nat.le_of_ble_eq_true rfl)
  rw [own_b8] at V38
  have N38 := Fr.snoc X38 N33 p3_g
  have K39 := K34.wr W38 (Or.inl (List.mem_of_getElem? (i := 0) rfl))
  have f40 := (f35.other W38 p2_ne)
  obtain ⟨cl41, Ar41, qk41, qs41, qn41, qh41, qg41⟩ := id f40
  have hin41 : ¬ ((2 : Int32) < 0 ∨ cl41.slots.size ≤ ((2 : Int32)).toNatClampNeg) := inb_of qs41 ⟨by decide, by decide⟩
  have hat41 : cl41.slots[((2 : Int32)).toNatClampNeg]? = some (.int c2) := qh41.at hin41 rfl
  obtain ⟨cl42, Ar42, qk42, qs42, qn42, qh42, qg42⟩ := id V38
  have hin42 : ¬ ((2 : Int32) < 0 ∨ cl42.slots.size ≤ ((2 : Int32)).toNatClampNeg) := inb_of qs42 ⟨by decide, by decide⟩
  obtain ⟨T43, h43, X43, e43, W43, st43⟩ := stB X38 hx hZ e38 Ar42 (j := (2 : Int32)) hin42 (g := (mkF m 31 #[.val (.ref a0), .val (.int 2), .val (.ref a2), .val (.int 2), .val (.int 25), .val (.int 2), .val (.int c2)] [(.int (c2.toInt8.toInt32)), (.int 2), (.ref a2)])) rfl rfl (hb hby d7_31)
  have V43 : Arv Z h43 a2 k2 .byte (25 : Int32) [(.int (c0.toInt8.toInt32)), (.int (c1.toInt8.toInt32)), (.int ((c2.toInt8.toInt32).toInt8.toInt32)), (.int 0), (.int 0), (.int 0), (.int 0), (.int 0), (.int 0), (.int 0), (.int 0), (.int 0), (.int 0), (.int 0), (.int 0), (.int 0), (.int 0), (.int 0), (.int 0), (.int 0), (.int 0), (.int 0), (.int 0), (.int 0), (.int 0)] (.int 0) := Arv.set Ar42 qk42 qs42 qn42 qh42 qg42 (fits_nar_byte _) W43 2 rfl (Nat.le_of_ble_eq_true rfl)
  rw [own_b8] at V43
  have N43 := Fr.snoc X43 N38 p3_g
  have K44 := K39.wr W43 (Or.inl (List.mem_of_getElem? (i := 0) rfl))
  have f45 := (f40.other W43 p2_ne)
  obtain ⟨cl46, Ar46, qk46, qs46, qn46, qh46, qg46⟩ := id f45
  have hin46 : ¬ ((3 : Int32) < 0 ∨ cl46.slots.size ≤ ((3 : Int32)).toNatClampNeg) := inb_of qs46 ⟨by decide, by decide⟩
  have hat46 : cl46.slots[((3 : Int32)).toNatClampNeg]? = some (.int c3) := qh46.at hin46 rfl
  obtain ⟨cl47, Ar47, qk47, qs47, qn47, qh47, qg47⟩ := id V43
  have hin47 : ¬ ((3 : Int32) < 0 ∨ cl47.slots.size ≤ ((3 : Int32)).toNatClampNeg) := inb_of qs47 ⟨by decide, by decide⟩
  obtain ⟨T48, h48, X48, e48, W48, st48⟩ := stB X43 hx hZ e43 Ar47 (j := (3 : Int32)) hin47 (g := (mkF m 31 #[.val (.ref a0), .val (.int 3), .val (.ref a2), .val (.int 3), .val (.int 25), .val (.int 3), .val (.int c3)] [(.int (c3.toInt8.toInt32)), (.int 3), (.ref a2)])) rfl rfl (hb hby d7_31)
  have V48 : Arv Z h48 a2 k2 .byte (25 : Int32) [(.int (c0.toInt8.toInt32)), (.int (c1.toInt8.toInt32)), (.int (c2.toInt8.toInt32)), (.int ((c3.toInt8.toInt32).toInt8.toInt32)), (.int 0), (.int 0), (.int 0), (.int 0), (.int 0), (.int 0), (.int 0), (.int 0), (.int 0), (.int 0), (.int 0), (.int 0), (.int 0), (.int 0), (.int 0), (.int 0), (.int 0), (.int 0), (.int 0), (.int 0), (.int 0)] (.int 0) := Arv.set Ar47 qk47 qs47 qn47 qh47 qg47 (fits_nar_byte _) W48 3 rfl (Nat.le_of_ble_eq_true rfl)
  rw [own_b8] at V48
  have N48 := Fr.snoc X48 N43 p3_g
  have K49 := K44.wr W48 (Or.inl (List.mem_of_getElem? (i := 0) rfl))
  have f50 := (f45.other W48 p2_ne)
  obtain ⟨cl51, Ar51, qk51, qs51, qn51, qh51, qg51⟩ := id f50
  have hin51 : ¬ ((4 : Int32) < 0 ∨ cl51.slots.size ≤ ((4 : Int32)).toNatClampNeg) := inb_of qs51 ⟨by decide, by decide⟩
  have hat51 : cl51.slots[((4 : Int32)).toNatClampNeg]? = some (.int c4) := qh51.at hin51 rfl
  obtain ⟨cl52, Ar52, qk52, qs52, qn52, qh52, qg52⟩ := id V48
  have hin52 : ¬ ((4 : Int32) < 0 ∨ cl52.slots.size ≤ ((4 : Int32)).toNatClampNeg) := inb_of qs52 ⟨by decide, by decide⟩
  obtain ⟨T53, h53, X53, e53, W53, st53⟩ := stB X48 hx hZ e48 Ar52 (j := (4 : Int32)) hin52 (g := (mkF m 31 #[.val (.ref a0), .val (.int 4), .val (.ref a2), .val (.int 4), .val (.int 25), .val (.int 4), .val (.int c4)] [(.int (c4.toInt8.toInt32)), (.int 4), (.ref a2)])) rfl rfl (hb hby d7_31)
  have V53 : Arv Z h53 a2 k2 .byte (25 : Int32) [(.int (c0.toInt8.toInt32)), (.int (c1.toInt8.toInt32)), (.int (c2.toInt8.toInt32)), (.int (c3.toInt8.toInt32)), (.int ((c4.toInt8.toInt32).toInt8.toInt32)), (.int 0), (.int 0), (.int 0), (.int 0), (.int 0), (.int 0), (.int 0), (.int 0), (.int 0), (.int 0), (.int 0), (.int 0), (.int 0), (.int 0), (.int 0), (.int 0), (.int 0), (.int 0), (.int 0), (.int 0)] (.int 0) := Arv.set Ar52 qk52 qs52 qn52 qh52 qg52 (fits_nar_byte _) W53 4 rfl (Nat.le_of_ble_eq_true rfl)
  rw [own_b8] at V53
  have N53 := Fr.snoc X53 N48 p3_g
  have K54 := K49.wr W53 (Or.inl (List.mem_of_getElem? (i := 0) rfl))
  have f55 := (f50.other W53 p2_ne)
  obtain ⟨cl56, Ar56, qk56, qs56, qn56, qh56, qg56⟩ := id f55
  have hin56 : ¬ ((5 : Int32) < 0 ∨ cl56.slots.size ≤ ((5 : Int32)).toNatClampNeg) := inb_of qs56 ⟨by decide, by decide⟩
  have hat56 : cl56.slots[((5 : Int32)).toNatClampNeg]? = some (.int c5) := qh56.at hin56 rfl
  obtain ⟨cl57, Ar57, qk57, qs57, qn57, qh57, qg57⟩ := id V53
  have hin57 : ¬ ((5 : Int32) < 0 ∨ cl57.slots.size ≤ ((5 : Int32)).toNatClampNeg) := inb_of qs57 ⟨by decide, by decide⟩
  obtain ⟨T58, h58, X58, e58, W58, st58⟩ := stB X53 hx hZ e53 Ar57 (j := (5 : Int32)) hin57 (g := (mkF m 31 #[.val (.ref a0), .val (.int 5), .val (.ref a2), .val (.int 5), .val (.int 25), .val (.int 5), .val (.int c5)] [(.int (c5.toInt8.toInt32)), (.int 5), (.ref a2)])) rfl rfl (hb hby d7_31)
  have V58 : Arv Z h58 a2 k2 .byte (25 : Int32) [(.int (c0.toInt8.toInt32)), (.int (c1.toInt8.toInt32)), (.int (c2.toInt8.toInt32)), (.int (c3.toInt8.toInt32)), (.int (c4.toInt8.toInt32)), (.int ((c5.toInt8.toInt32).toInt8.toInt32)), (.int 0), (.int 0), (.int 0), (.int 0), (.int 0), (.int 0), (.int 0), (.int 0), (.int 0), (.int 0), (.int 0), (.int 0), (.int 0), (.int 0), (.int 0), (.int 0), (.int 0), (.int 0), (.int 0)] (.int 0) := Arv.set Ar57 qk57 qs57 qn57 qh57 qg57 (fits_nar_byte _) W58 5 rfl (Nat.le_of_ble_eq_true rfl)
  rw [own_b8] at V58
  have N58 := Fr.snoc X58 N53 p3_g
  have K59 := K54.wr W58 (Or.inl (List.mem_of_getElem? (i := 0) rfl))
  have f60 := (f55.other W58 p2_ne)
  obtain ⟨cl61, Ar61, qk61, qs61, qn61, qh61, qg61⟩ := id f60
  have hin61 : ¬ ((6 : Int32) < 0 ∨ cl61.slots.size ≤ ((6 : Int32)).toNatClampNeg) := inb_of qs61 ⟨by decide, by decide⟩
  have hat61 : cl61.slots[((6 : Int32)).toNatClampNeg]? = some (.int c6) := qh61.at hin61 rfl
  obtain ⟨cl62, Ar62, qk62, qs62, qn62, qh62, qg62⟩ := id V58
  have hin62 : ¬ ((6 : Int32) < 0 ∨ cl62.slots.size ≤ ((6 : Int32)).toNatClampNeg) := inb_of qs62 ⟨by decide, by decide⟩
  obtain ⟨T63, h63, X63, e63, W63, st63⟩ := stB X58 hx hZ e58 Ar62 (j := (6 : Int32)) hin62 (g := (mkF m 31 #[.val (.ref a0), .val (.int 6), .val (.ref a2), .val (.int 6), .val (.int 25), .val (.int 6), .val (.int c6)] [(.int (c6.toInt8.toInt32)), (.int 6), (.ref a2)])) rfl rfl (hb hby d7_31)
  have V63 : Arv Z h63 a2 k2 .byte (25 : Int32) [(.int (c0.toInt8.toInt32)), (.int (c1.toInt8.toInt32)), (.int (c2.toInt8.toInt32)), (.int (c3.toInt8.toInt32)), (.int (c4.toInt8.toInt32)), (.int (c5.toInt8.toInt32)), (.int ((c6.toInt8.toInt32).toInt8.toInt32)), (.int 0), (.int 0), (.int 0), (.int 0), (.int 0), (.int 0), (.int 0), (.int 0), (.int 0), (.int 0), (.int 0), (.int 0), (.int 0), (.int 0), (.int 0), (.int 0), (.int 0), (.int 0)] (.int 0) := Arv.set Ar62 qk62 qs62 qn62 qh62 qg62 (fits_nar_byte _) W63 6 rfl (Nat.le_of_ble_eq_true rfl)
  rw [own_b8] at V63
  have N63 := Fr.snoc X63 N58 p3_g
  have K64 := K59.wr W63 (Or.inl (List.mem_of_getElem? (i := 0) rfl))
  have f65 := (f60.other W63 p2_ne)
  obtain ⟨cl66, Ar66, qk66, qs66, qn66, qh66, qg66⟩ := id f65
  have hin66 : ¬ ((7 : Int32) < 0 ∨ cl66.slots.size ≤ ((7 : Int32)).toNatClampNeg) := inb_of qs66 ⟨by decide, by decide⟩
  have hat66 : cl66.slots[((7 : Int32)).toNatClampNeg]? = some (.int c7) := qh66.at hin66 rfl
  obtain ⟨cl67, Ar67, qk67, qs67, qn67, qh67, qg67⟩ := id V63
  have hin67 : ¬ ((7 : Int32) < 0 ∨ cl67.slots.size ≤ ((7 : Int32)).toNatClampNeg) := inb_of qs67 ⟨by decide, by decide⟩
  obtain ⟨T68, h68, X68, e68, W68, st68⟩ := stB X63 hx hZ e63 Ar67 (j := (7 : Int32)) hin67 (g := (mkF m 31 #[.val (.ref a0), .val (.int 7), .val (.ref a2), .val (.int 7), .val (.int 25), .val (.int 7), .val (.int c7)] [(.int (c7.toInt8.toInt32)), (.int 7), (.ref a2)])) rfl rfl (hb hby d7_31)
  have V68 : Arv Z h68 a2 k2 .byte (25 : Int32) [(.int (c0.toInt8.toInt32)), (.int (c1.toInt8.toInt32)), (.int (c2.toInt8.toInt32)), (.int (c3.toInt8.toInt32)), (.int (c4.toInt8.toInt32)), (.int (c5.toInt8.toInt32)), (.int (c6.toInt8.toInt32)), (.int ((c7.toInt8.toInt32).toInt8.toInt32)), (.int 0), (.int 0), (.int 0), (.int 0), (.int 0), (.int 0), (.int 0), (.int 0), (.int 0), (.int 0), (.int 0), (.int 0), (.int 0), (.int 0), (.int 0), (.int 0), (.int 0)] (.int 0) := Arv.set Ar67 qk67 qs67 qn67 qh67 qg67 (fits_nar_byte _) W68 7 rfl (Nat.le_of_ble_eq_true rfl)
  rw [own_b8] at V68
  have N68 := Fr.snoc X68 N63 p3_g
  have K69 := K64.wr W68 (Or.inl (List.mem_of_getElem? (i := 0) rfl))
  have f70 := (f65.other W68 p2_ne)
  obtain ⟨cl71, Ar71, qk71, qs71, qn71, qh71, qg71⟩ := id f70
  have hin71 : ¬ ((8 : Int32) < 0 ∨ cl71.slots.size ≤ ((8 : Int32)).toNatClampNeg) := inb_of qs71 ⟨by decide, by decide⟩
  have hat71 : cl71.slots[((8 : Int32)).toNatClampNeg]? = some (.int c8) := qh71.at hin71 rfl
  obtain ⟨cl72, Ar72, qk72, qs72, qn72, qh72, qg72⟩ := id V68
  have hin72 : ¬ ((8 : Int32) < 0 ∨ cl72.slots.size ≤ ((8 : Int32)).toNatClampNeg) := inb_of qs72 ⟨by decide, by decide⟩
  obtain ⟨T73, h73, X73, e73, W73, st73⟩ := stB X68 hx hZ e68 Ar72 (j := (8 : Int32)) hin72 (g := (mkF m 31 #[.val (.ref a0), .val (.int 8), .val (.ref a2), .val (.int 8), .val (.int 25), .val (.int 8), .val (.int c8)] [(.int (c8.toInt8.toInt32)), (.int 8), (.ref a2)])) rfl rfl (hb hby d7_31)
  have V73 : Arv Z h73 a2 k2 .byte (25 : Int32) [(.int (c0.toInt8.toInt32)), (.int (c1.toInt8.toInt32)), (.int (c2.toInt8.toInt32)), (.int (c3.toInt8.toInt32)), (.int (c4.toInt8.toInt32)), (.int (c5.toInt8.toInt32)), (.int (c6.toInt8.toInt32)), (.int (c7.toInt8.toInt32)), (.int ((c8.toInt8.toInt32).toInt8.toInt32)), (.int 0), (.int 0), (.int 0), (.int 0), (.int 0), (.int 0), (.int 0), (.int 0), (.int 0), (.int 0), (.int 0), (.int 0), (.int 0), (.int 0), (.int 0), (.int 0)] (.int 0) := Arv.set Ar72 qk72 qs72 qn72 qh72 qg72 (fits_nar_byte _) W73 8 rfl (Nat.le_of_ble_eq_true rfl)
  rw [own_b8] at V73
  have N73 := Fr.snoc X73 N68 p3_g
  have K74 := K69.wr W73 (Or.inl (List.mem_of_getElem? (i := 0) rfl))
  have f75 := (f70.other W73 p2_ne)
  obtain ⟨cl76, Ar76, qk76, qs76, qn76, qh76, qg76⟩ := id f75
  have hin76 : ¬ ((9 : Int32) < 0 ∨ cl76.slots.size ≤ ((9 : Int32)).toNatClampNeg) := inb_of qs76 ⟨by decide, by decide⟩
  have hat76 : cl76.slots[((9 : Int32)).toNatClampNeg]? = some (.int c9) := qh76.at hin76 rfl
  obtain ⟨cl77, Ar77, qk77, qs77, qn77, qh77, qg77⟩ := id V73
  have hin77 : ¬ ((9 : Int32) < 0 ∨ cl77.slots.size ≤ ((9 : Int32)).toNatClampNeg) := inb_of qs77 ⟨by decide, by decide⟩
  obtain ⟨T78, h78, X78, e78, W78, st78⟩ := stB X73 hx hZ e73 Ar77 (j := (9 : Int32)) hin77 (g := (mkF m 31 #[.val (.ref a0), .val (.int 9), .val (.ref a2), .val (.int 9), .val (.int 25), .val (.int 9), .val (.int c9)] [(.int (c9.toInt8.toInt32)), (.int 9), (.ref a2)])) rfl rfl (hb hby d7_31)
  have V78 : Arv Z h78 a2 k2 .byte (25 : Int32) [(.int (c0.toInt8.toInt32)), (.int (c1.toInt8.toInt32)), (.int (c2.toInt8.toInt32)), (.int (c3.toInt8.toInt32)), (.int (c4.toInt8.toInt32)), (.int (c5.toInt8.toInt32)), (.int (c6.toInt8.toInt32)), (.int (c7.toInt8.toInt32)), (.int (c8.toInt8.toInt32)), (.int ((c9.toInt8.toInt32).toInt8.toInt32)), (.int 0), (.int 0), (.int 0), (.int 0), (.int 0), (.int 0), (.int 0), (.int 0), (.int 0), (.int 0), (.int 0), (.int 0), (.int 0), (.int 0), (.int 0)] (.int 0) := Arv.set Ar77 qk77 qs77 qn77 qh77 qg77 (fits_nar_byte _) W78 9 rfl (Nat.le_of_ble_eq_true rfl)
  rw [own_b8] at V78
  have N78 := Fr.snoc X78 N73 p3_g
  have K79 := K74.wr W78 (Or.inl (List.mem_of_getElem? (i := 0) rfl))
  have f80 := (f75.other W78 p2_ne)
  obtain ⟨cl81, Ar81, qk81, qs81, qn81, qh81, qg81⟩ := id f80
  have hin81 : ¬ ((10 : Int32) < 0 ∨ cl81.slots.size ≤ ((10 : Int32)).toNatClampNeg) := inb_of qs81 ⟨by decide, by decide⟩
  have hat81 : cl81.slots[((10 : Int32)).toNatClampNeg]? = some (.int c10) := qh81.at hin81 rfl
  obtain ⟨cl82, Ar82, qk82, qs82, qn82, qh82, qg82⟩ := id V78
  have hin82 : ¬ ((10 : Int32) < 0 ∨ cl82.slots.size ≤ ((10 : Int32)).toNatClampNeg) := inb_of qs82 ⟨by decide, by decide⟩
  obtain ⟨T83, h83, X83, e83, W83, st83⟩ := stB X78 hx hZ e78 Ar82 (j := (10 : Int32)) hin82 (g := (mkF m 31 #[.val (.ref a0), .val (.int 10), .val (.ref a2), .val (.int 10), .val (.int 25), .val (.int 10), .val (.int c10)] [(.int (c10.toInt8.toInt32)), (.int 10), (.ref a2)])) rfl rfl (hb hby d7_31)
  have V83 : Arv Z h83 a2 k2 .byte (25 : Int32) [(.int (c0.toInt8.toInt32)), (.int (c1.toInt8.toInt32)), (.int (c2.toInt8.toInt32)), (.int (c3.toInt8.toInt32)), (.int (c4.toInt8.toInt32)), (.int (c5.toInt8.toInt32)), (.int (c6.toInt8.toInt32)), (.int (c7.toInt8.toInt32)), (.int (c8.toInt8.toInt32)), (.int (c9.toInt8.toInt32)), (.int ((c10.toInt8.toInt32).toInt8.toInt32)), (.int 0), (.int 0), (.int 0), (.int 0), (.int 0), (.int 0), (.int 0), (.int 0), (.int 0), (.int 0), (.int 0), (.int 0), (.int 0), (.int 0)] (.int 0) := Arv.set Ar82 qk82 qs82 qn82 qh82 qg82 (fits_nar_byte _) W83 10 rfl (Nat.le_of_ble_eq_true rfl)
  rw [own_b8] at V83
  have N83 := Fr.snoc X83 N78 p3_g
  have K84 := K79.wr W83 (Or.inl (List.mem_of_getElem? (i := 0) rfl))
  have f85 := (f80.other W83 p2_ne)
  obtain ⟨cl86, Ar86, qk86, qs86, qn86, qh86, qg86⟩ := id f85
  have hin86 : ¬ ((11 : Int32) < 0 ∨ cl86.slots.size ≤ ((11 : Int32)).toNatClampNeg) := inb_of qs86 ⟨by decide, by decide⟩
  have hat86 : cl86.slots[((11 : Int32)).toNatClampNeg]? = some (.int c11) := qh86.at hin86 rfl
  obtain ⟨cl87, Ar87, qk87, qs87, qn87, qh87, qg87⟩ := id V83
  have hin87 : ¬ ((11 : Int32) < 0 ∨ cl87.slots.size ≤ ((11 : Int32)).toNatClampNeg) := inb_of qs87 ⟨by decide, by decide⟩
  obtain ⟨T88, h88, X88, e88, W88, st88⟩ := stB X83 hx hZ e83 Ar87 (j := (11 : Int32)) hin87 (g := (mkF m 31 #[.val (.ref a0), .val (.int 11), .val (.ref a2), .val (.int 11), .val (.int 25), .val (.int 11), .val (.int c11)] [(.int (c11.toInt8.toInt32)), (.int 11), (.ref a2)])) rfl rfl (hb hby d7_31)
  have V88 : Arv Z h88 a2 k2 .byte (25 : Int32) [(.int (c0.toInt8.toInt32)), (.int (c1.toInt8.toInt32)), (.int (c2.toInt8.toInt32)), (.int (c3.toInt8.toInt32)), (.int (c4.toInt8.toInt32)), (.int (c5.toInt8.toInt32)), (.int (c6.toInt8.toInt32)), (.int (c7.toInt8.toInt32)), (.int (c8.toInt8.toInt32)), (.int (c9.toInt8.toInt32)), (.int (c10.toInt8.toInt32)), (.int ((c11.toInt8.toInt32).toInt8.toInt32)), (.int 0), (.int 0), (.int 0), (.int 0), (.int 0), (.int 0), (.int 0), (.int 0), (.int 0), (.int 0), (.int 0), (.int 0), (.int 0)] (.int 0) := Arv.set Ar87 qk87 qs87 qn87 qh87 qg87 (fits_nar_byte _) W88 11 rfl (Nat.le_of_ble_eq_true rfl)
  rw [own_b8] at V88
  have N88 := Fr.snoc X88 N83 p3_g
  have K89 := K84.wr W88 (Or.inl (List.mem_of_getElem? (i := 0) rfl))
  have f90 := (f85.other W88 p2_ne)
  obtain ⟨cl91, Ar91, qk91, qs91, qn91, qh91, qg91⟩ := id f90
  have hin91 : ¬ ((12 : Int32) < 0 ∨ cl91.slots.size ≤ ((12 : Int32)).toNatClampNeg) := inb_of qs91 ⟨by decide, by decide⟩
  have hat91 : cl91.slots[((12 : Int32)).toNatClampNeg]? = some (.int c12) := qh91.at hin91 rfl
  obtain ⟨cl92, Ar92, qk92, qs92, qn92, qh92, qg92⟩ := id V88
  have hin92 : ¬ ((12 : Int32) < 0 ∨ cl92.slots.size ≤ ((12 : Int32)).toNatClampNeg) := inb_of qs92 ⟨by decide, by decide⟩
  obtain ⟨T93, h93, X93, e93, W93, st93⟩ := stB X88 hx hZ e88 Ar92 (j := (12 : Int32)) hin92 (g := (mkF m 31 #[.val (.ref a0), .val (.int 12), .val (.ref a2), .val (.int 12), .val (.int 25), .val (.int 12), .val (.int c12)] [(.int (c12.toInt8.toInt32)), (.int 12), (.ref a2)])) rfl rfl (hb hby d7_31)
  have V93 : Arv Z h93 a2 k2 .byte (25 : Int32) [(.int (c0.toInt8.toInt32)), (.int (c1.toInt8.toInt32)), (.int (c2.toInt8.toInt32)), (.int (c3.toInt8.toInt32)), (.int (c4.toInt8.toInt32)), (.int (c5.toInt8.toInt32)), (.int (c6.toInt8.toInt32)), (.int (c7.toInt8.toInt32)), (.int (c8.toInt8.toInt32)), (.int (c9.toInt8.toInt32)), (.int (c10.toInt8.toInt32)), (.int (c11.toInt8.toInt32)), (.int ((c12.toInt8.toInt32).toInt8.toInt32)), (.int 0), (.int 0), (.int 0), (.int 0), (.int 0), (.int 0), (.int 0), (.int 0), (.int 0), (.int 0), (.int 0), (.int 0)] (.int 0) := Arv.set Ar92 qk92 qs92 qn92 qh92 qg92 (fits_nar_byte _) W93 12 rfl (Nat.le_of_ble_eq_true rfl)
  rw [own_b8] at V93
  have N93 := Fr.snoc X93 N88 p3_g
  have K94 := K89.wr W93 (Or.inl (List.mem_of_getElem? (i := 0) rfl))
  have f95 := (f90.other W93 p2_ne)
  obtain ⟨cl96, Ar96, qk96, qs96, qn96, qh96, qg96⟩ := id f95
  have hin96 : ¬ ((13 : Int32) < 0 ∨ cl96.slots.size ≤ ((13 : Int32)).toNatClampNeg) := inb_of qs96 ⟨by decide, by decide⟩
  have hat96 : cl96.slots[((13 : Int32)).toNatClampNeg]? = some (.int c13) := qh96.at hin96 rfl
  obtain ⟨cl97, Ar97, qk97, qs97, qn97, qh97, qg97⟩ := id V93
  have hin97 : ¬ ((13 : Int32) < 0 ∨ cl97.slots.size ≤ ((13 : Int32)).toNatClampNeg) := inb_of qs97 ⟨by decide, by decide⟩
  obtain ⟨T98, h98, X98, e98, W98, st98⟩ := stB X93 hx hZ e93 Ar97 (j := (13 : Int32)) hin97 (g := (mkF m 31 #[.val (.ref a0), .val (.int 13), .val (.ref a2), .val (.int 13), .val (.int 25), .val (.int 13), .val (.int c13)] [(.int (c13.toInt8.toInt32)), (.int 13), (.ref a2)])) rfl rfl (hb hby d7_31)
  have V98 : Arv Z h98 a2 k2 .byte (25 : Int32) [(.int (c0.toInt8.toInt32)), (.int (c1.toInt8.toInt32)), (.int (c2.toInt8.toInt32)), (.int (c3.toInt8.toInt32)), (.int (c4.toInt8.toInt32)), (.int (c5.toInt8.toInt32)), (.int (c6.toInt8.toInt32)), (.int (c7.toInt8.toInt32)), (.int (c8.toInt8.toInt32)), (.int (c9.toInt8.toInt32)), (.int (c10.toInt8.toInt32)), (.int (c11.toInt8.toInt32)), (.int (c12.toInt8.toInt32)), (.int ((c13.toInt8.toInt32).toInt8.toInt32)), (.int 0), (.int 0), (.int 0), (.int 0), (.int 0), (.int 0), (.int 0), (.int 0), (.int 0), (.int 0), (.int 0)] (.int 0) := Arv.set Ar97 qk97 qs97 qn97 qh97 qg97 (fits_nar_byte _) W98 13 rfl (Nat.le_of_ble_eq_true rfl)
  rw [own_b8] at V98
  have N98 := Fr.snoc X98 N93 p3_g
  have K99 := K94.wr W98 (Or.inl (List.mem_of_getElem? (i := 0) rfl))
  have f100 := (f95.other W98 p2_ne)
  obtain ⟨cl101, Ar101, qk101, qs101, qn101, qh101, qg101⟩ := id f100
  have hin101 : ¬ ((14 : Int32) < 0 ∨ cl101.slots.size ≤ ((14 : Int32)).toNatClampNeg) := inb_of qs101 ⟨by decide, by decide⟩
  have hat101 : cl101.slots[((14 : Int32)).toNatClampNeg]? = some (.int c14) := qh101.at hin101 rfl
  obtain ⟨cl102, Ar102, qk102, qs102, qn102, qh102, qg102⟩ := id V98
  have hin102 : ¬ ((14 : Int32) < 0 ∨ cl102.slots.size ≤ ((14 : Int32)).toNatClampNeg) := inb_of qs102 ⟨by decide, by decide⟩
  obtain ⟨T103, h103, X103, e103, W103, st103⟩ := stB X98 hx hZ e98 Ar102 (j := (14 : Int32)) hin102 (g := (mkF m 31 #[.val (.ref a0), .val (.int 14), .val (.ref a2), .val (.int 14), .val (.int 25), .val (.int 14), .val (.int c14)] [(.int (c14.toInt8.toInt32)), (.int 14), (.ref a2)])) rfl rfl (hb hby d7_31)
  have V103 : Arv Z h103 a2 k2 .byte (25 : Int32) [(.int (c0.toInt8.toInt32)), (.int (c1.toInt8.toInt32)), (.int (c2.toInt8.toInt32)), (.int (c3.toInt8.toInt32)), (.int (c4.toInt8.toInt32)), (.int (c5.toInt8.toInt32)), (.int (c6.toInt8.toInt32)), (.int (c7.toInt8.toInt32)), (.int (c8.toInt8.toInt32)), (.int (c9.toInt8.toInt32)), (.int (c10.toInt8.toInt32)), (.int (c11.toInt8.toInt32)), (.int (c12.toInt8.toInt32)), (.int (c13.toInt8.toInt32)), (.int ((c14.toInt8.toInt32).toInt8.toInt32)), (.int 0), (.int 0), (.int 0), (.int 0), (.int 0), (.int 0), (.int 0), (.int 0), (.int 0), (.int 0)] (.int 0) := Arv.set Ar102 qk102 qs102 qn102 qh102 qg102 (fits_nar_byte _) W103 14 rfl (Nat.le_of_ble_eq_true rfl)
  rw [own_b8] at V103
  have N103 := Fr.snoc X103 N98 p3_g
  have K104 := K99.wr W103 (Or.inl (List.mem_of_getElem? (i := 0) rfl))
  have f105 := (f100.other W103 p2_ne)
  obtain ⟨cl106, Ar106, qk106, qs106, qn106, qh106, qg106⟩ := id f105
  have hin106 : ¬ ((15 : Int32) < 0 ∨ cl106.slots.size ≤ ((15 : Int32)).toNatClampNeg) := inb_of qs106 ⟨by decide, by decide⟩
  have hat106 : cl106.slots[((15 : Int32)).toNatClampNeg]? = some (.int c15) := qh106.at hin106 rfl
  obtain ⟨cl107, Ar107, qk107, qs107, qn107, qh107, qg107⟩ := id V103
  have hin107 : ¬ ((15 : Int32) < 0 ∨ cl107.slots.size ≤ ((15 : Int32)).toNatClampNeg) := inb_of qs107 ⟨by decide, by decide⟩
  obtain ⟨T108, h108, X108, e108, W108, st108⟩ := stB X103 hx hZ e103 Ar107 (j := (15 : Int32)) hin107 (g := (mkF m 31 #[.val (.ref a0), .val (.int 15), .val (.ref a2), .val (.int 15), .val (.int 25), .val (.int 15), .val (.int c15)] [(.int (c15.toInt8.toInt32)), (.int 15), (.ref a2)])) rfl rfl (hb hby d7_31)
  have V108 : Arv Z h108 a2 k2 .byte (25 : Int32) [(.int (c0.toInt8.toInt32)), (.int (c1.toInt8.toInt32)), (.int (c2.toInt8.toInt32)), (.int (c3.toInt8.toInt32)), (.int (c4.toInt8.toInt32)), (.int (c5.toInt8.toInt32)), (.int (c6.toInt8.toInt32)), (.int (c7.toInt8.toInt32)), (.int (c8.toInt8.toInt32)), (.int (c9.toInt8.toInt32)), (.int (c10.toInt8.toInt32)), (.int (c11.toInt8.toInt32)), (.int (c12.toInt8.toInt32)), (.int (c13.toInt8.toInt32)), (.int (c14.toInt8.toInt32)), (.int ((c15.toInt8.toInt32).toInt8.toInt32)), (.int 0), (.int 0), (.int 0), (.int 0), (.int 0), (.int 0), (.int 0), (.int 0), (.int 0)] (.int 0) := Arv.set Ar107 qk107 qs107 qn107 qh107 qg107 (fits_nar_byte _) W108 15 rfl (Nat.le_of_ble_eq_true rfl)
  rw [own_b8] at V108
  have N108 := Fr.snoc X108 N103 p3_g
  have K109 := K104.wr W108 (Or.inl (List.mem_of_getElem? (i := 0) rfl))
  have f110 := (f105.other W108 p2_ne)
  obtain ⟨cl111, Ar111, qk111, qs111, qn111, qh111, qg111⟩ := id f110
  have hin111 : ¬ ((16 : Int32) < 0 ∨ cl111.slots.size ≤ ((16 : Int32)).toNatClampNeg) := inb_of qs111 ⟨by decide, by decide⟩
  have hat111 : cl111.slots[((16 : Int32)).toNatClampNeg]? = some (.int c16) := qh111.at hin111 rfl
  obtain ⟨cl112, Ar112, qk112, qs112, qn112, qh112, qg112⟩ := id V108
  have hin112 : ¬ ((16 : Int32) < 0 ∨ cl112.slots.size ≤ ((16 : Int32)).toNatClampNeg) := inb_of qs112 ⟨by decide, by decide⟩
  obtain ⟨T113, h113, X113, e113, W113, st113⟩ := stB X108 hx hZ e108 Ar112 (j := (16 : Int32)) hin112 (g := (mkF m 31 #[.val (.ref a0), .val (.int 16), .val (.ref a2), .val (.int 16), .val (.int 25), .val (.int 16), .val (.int c16)] [(.int (c16.toInt8.toInt32)), (.int 16), (.ref a2)])) rfl rfl (hb hby d7_31)
  have V113 : Arv Z h113 a2 k2 .byte (25 : Int32) [(.int (c0.toInt8.toInt32)), (.int (c1.toInt8.toInt32)), (.int (c2.toInt8.toInt32)), (.int (c3.toInt8.toInt32)), (.int (c4.toInt8.toInt32)), (.int (c5.toInt8.toInt32)), (.int (c6.toInt8.toInt32)), (.int (c7.toInt8.toInt32)), (.int (c8.toInt8.toInt32)), (.int (c9.toInt8.toInt32)), (.int (c10.toInt8.toInt32)), (.int (c11.toInt8.toInt32)), (.int (c12.toInt8.toInt32)), (.int (c13.toInt8.toInt32)), (.int (c14.toInt8.toInt32)), (.int (c15.toInt8.toInt32)), (.int ((c16.toInt8.toInt32).toInt8.toInt32)), (.int 0), (.int 0), (.int 0), (.int 0), (.int 0), (.int 0), (.int 0), (.int 0)] (.int 0) := Arv.set Ar112 qk112 qs112 qn112 qh112 qg112 (fits_nar_byte _) W113 16 rfl (Nat.le_of_ble_eq_true rfl)
  rw [own_b8] at V113
  have N113 := Fr.snoc X113 N108 p3_g
  have K114 := K109.wr W113 (Or.inl (List.mem_of_getElem? (i := 0) rfl))
  have f115 := (f110.other W113 p2_ne)
  obtain ⟨cl116, Ar116, qk116, qs116, qn116, qh116, qg116⟩ := id f115
  have hin116 : ¬ ((17 : Int32) < 0 ∨ cl116.slots.size ≤ ((17 : Int32)).toNatClampNeg) := inb_of qs116 ⟨by decide, by decide⟩
  have hat116 : cl116.slots[((17 : Int32)).toNatClampNeg]? = some (.int c17) := qh116.at hin116 rfl
  obtain ⟨cl117, Ar117, qk117, qs117, qn117, qh117, qg117⟩ := id V113
  have hin117 : ¬ ((17 : Int32) < 0 ∨ cl117.slots.size ≤ ((17 : Int32)).toNatClampNeg) := inb_of qs117 ⟨by decide, by decide⟩
  obtain ⟨T118, h118, X118, e118, W118, st118⟩ := stB X113 hx hZ e113 Ar117 (j := (17 : Int32)) hin117 (g := (mkF m 31 #[.val (.ref a0), .val (.int 17), .val (.ref a2), .val (.int 17), .val (.int 25), .val (.int 17), .val (.int c17)] [(.int (c17.toInt8.toInt32)), (.int 17), (.ref a2)])) rfl rfl (hb hby d7_31)
  have V118 : Arv Z h118 a2 k2 .byte (25 : Int32) [(.int (c0.toInt8.toInt32)), (.int (c1.toInt8.toInt32)), (.int (c2.toInt8.toInt32)), (.int (c3.toInt8.toInt32)), (.int (c4.toInt8.toInt32)), (.int (c5.toInt8.toInt32)), (.int (c6.toInt8.toInt32)), (.int (c7.toInt8.toInt32)), (.int (c8.toInt8.toInt32)), (.int (c9.toInt8.toInt32)), (.int (c10.toInt8.toInt32)), (.int (c11.toInt8.toInt32)), (.int (c12.toInt8.toInt32)), (.int (c13.toInt8.toInt32)), (.int (c14.toInt8.toInt32)), (.int (c15.toInt8.toInt32)), (.int (c16.toInt8.toInt32)), (.int ((c17.toInt8.toInt32).toInt8.toInt32)), (.int 0), (.int 0), (.int 0), (.int 0), (.int 0), (.int 0), (.int 0)] (.int 0) := Arv.set Ar117 qk117 qs117 qn117 qh117 qg117 (fits_nar_byte _) W118 17 rfl (Nat.le_of_ble_eq_true rfl)
  rw [own_b8] at V118
  have N118 := Fr.snoc X118 N113 p3_g
  have K119 := K114.wr W118 (Or.inl (List.mem_of_getElem? (i := 0) rfl))
  have f120 := (f115.other W118 p2_ne)
  obtain ⟨cl121, Ar121, qk121, qs121, qn121, qh121, qg121⟩ := id f120
  have hin121 : ¬ ((18 : Int32) < 0 ∨ cl121.slots.size ≤ ((18 : Int32)).toNatClampNeg) := inb_of qs121 ⟨by decide, by decide⟩
  have hat121 : cl121.slots[((18 : Int32)).toNatClampNeg]? = some (.int c18) := qh121.at hin121 rfl
  obtain ⟨cl122, Ar122, qk122, qs122, qn122, qh122, qg122⟩ := id V118
  have hin122 : ¬ ((18 : Int32) < 0 ∨ cl122.slots.size ≤ ((18 : Int32)).toNatClampNeg) := inb_of qs122 ⟨by decide, by decide⟩
  obtain ⟨T123, h123, X123, e123, W123, st123⟩ := stB X118 hx hZ e118 Ar122 (j := (18 : Int32)) hin122 (g := (mkF m 31 #[.val (.ref a0), .val (.int 18), .val (.ref a2), .val (.int 18), .val (.int 25), .val (.int 18), .val (.int c18)] [(.int (c18.toInt8.toInt32)), (.int 18), (.ref a2)])) rfl rfl (hb hby d7_31)
  have V123 : Arv Z h123 a2 k2 .byte (25 : Int32) [(.int (c0.toInt8.toInt32)), (.int (c1.toInt8.toInt32)), (.int (c2.toInt8.toInt32)), (.int (c3.toInt8.toInt32)), (.int (c4.toInt8.toInt32)), (.int (c5.toInt8.toInt32)), (.int (c6.toInt8.toInt32)), (.int (c7.toInt8.toInt32)), (.int (c8.toInt8.toInt32)), (.int (c9.toInt8.toInt32)), (.int (c10.toInt8.toInt32)), (.int (c11.toInt8.toInt32)), (.int (c12.toInt8.toInt32)), (.int (c13.toInt8.toInt32)), (.int (c14.toInt8.toInt32)), (.int (c15.toInt8.toInt32)), (.int (c16.toInt8.toInt32)), (.int (c17.toInt8.toInt32)), (.int ((c18.toInt8.toInt32).toInt8.toInt32)), (.int 0), (.int 0), (.int 0), (.int 0), (.int 0), (.int 0)] (.int 0) := Arv.set Ar122 qk122 qs122 qn122 qh122 qg122 (fits_nar_byte _) W123 18 rfl (Nat.le_of_ble_eq_true rfl)
  rw [own_b8] at V123
  have N123 := Fr.snoc X123 N118 p3_g
  have K124 := K119.wr W123 (Or.inl (List.mem_of_getElem? (i := 0) rfl))
  have f125 := (f120.other W123 p2_ne)
  obtain ⟨cl126, Ar126, qk126, qs126, qn126, qh126, qg126⟩ := id f125
  have hin126 : ¬ ((19 : Int32) < 0 ∨ cl126.slots.size ≤ ((19 : Int32)).toNatClampNeg) := inb_of qs126 ⟨by decide, by decide⟩
  have hat126 : cl126.slots[((19 : Int32)).toNatClampNeg]? = some (.int c19) := qh126.at hin126 rfl
  obtain ⟨cl127, Ar127, qk127, qs127, qn127, qh127, qg127⟩ := id V123
  have hin127 : ¬ ((19 : Int32) < 0 ∨ cl127.slots.size ≤ ((19 : Int32)).toNatClampNeg) := inb_of qs127 ⟨by decide, by decide⟩
  obtain ⟨T128, h128, X128, e128, W128, st128⟩ := stB X123 hx hZ e123 Ar127 (j := (19 : Int32)) hin127 (g := (mkF m 31 #[.val (.ref a0), .val (.int 19), .val (.ref a2), .val (.int 19), .val (.int 25), .val (.int 19), .val (.int c19)] [(.int (c19.toInt8.toInt32)), (.int 19), (.ref a2)])) rfl rfl (hb hby d7_31)
  have V128 : Arv Z h128 a2 k2 .byte (25 : Int32) [(.int (c0.toInt8.toInt32)), (.int (c1.toInt8.toInt32)), (.int (c2.toInt8.toInt32)), (.int (c3.toInt8.toInt32)), (.int (c4.toInt8.toInt32)), (.int (c5.toInt8.toInt32)), (.int (c6.toInt8.toInt32)), (.int (c7.toInt8.toInt32)), (.int (c8.toInt8.toInt32)), (.int (c9.toInt8.toInt32)), (.int (c10.toInt8.toInt32)), (.int (c11.toInt8.toInt32)), (.int (c12.toInt8.toInt32)), (.int (c13.toInt8.toInt32)), (.int (c14.toInt8.toInt32)), (.int (c15.toInt8.toInt32)), (.int (c16.toInt8.toInt32)), (.int (c17.toInt8.toInt32)), (.int (c18.toInt8.toInt32)), (.int ((c19.toInt8.toInt32).toInt8.toInt32)), (.int 0), (.int 0), (.int 0), (.int 0), (.int 0)] (.int 0) := Arv.set Ar127 qk127 qs127 qn127 qh127 qg127 (fits_nar_byte _) W128 19 rfl (Nat.le_of_ble_eq_true rfl)
  rw [own_b8] at V128
  have N128 := Fr.snoc X128 N123 p3_g
  have K129 := K124.wr W128 (Or.inl (List.mem_of_getElem? (i := 0) rfl))
  have f130 := (f125.other W128 p2_ne)
  obtain ⟨cl131, Ar131, qk131, qs131, qn131, qh131, qg131⟩ := id f130
  have hin131 : ¬ ((20 : Int32) < 0 ∨ cl131.slots.size ≤ ((20 : Int32)).toNatClampNeg) := inb_of qs131 ⟨by decide, by decide⟩
  have hat131 : cl131.slots[((20 : Int32)).toNatClampNeg]? = some (.int c20) := qh131.at hin131 rfl
  obtain ⟨cl132, Ar132, qk132, qs132, qn132, qh132, qg132⟩ := id V128
  have hin132 : ¬ ((20 : Int32) < 0 ∨ cl132.slots.size ≤ ((20 : Int32)).toNatClampNeg) := inb_of qs132 ⟨by decide, by decide⟩
  obtain ⟨T133, h133, X133, e133, W133, st133⟩ := stB X128 hx hZ e128 Ar132 (j := (20 : Int32)) hin132 (g := (mkF m 31 #[.val (.ref a0), .val (.int 20), .val (.ref a2), .val (.int 20), .val (.int 25), .val (.int 20), .val (.int c20)] [(.int (c20.toInt8.toInt32)), (.int 20), (.ref a2)])) rfl rfl (hb hby d7_31)
  have V133 : Arv Z h133 a2 k2 .byte (25 : Int32) [(.int (c0.toInt8.toInt32)), (.int (c1.toInt8.toInt32)), (.int (c2.toInt8.toInt32)), (.int (c3.toInt8.toInt32)), (.int (c4.toInt8.toInt32)), (.int (c5.toInt8.toInt32)), (.int (c6.toInt8.toInt32)), (.int (c7.toInt8.toInt32)), (.int (c8.toInt8.toInt32)), (.int (c9.toInt8.toInt32)), (.int (c10.toInt8.toInt32)), (.int (c11.toInt8.toInt32)), (.int (c12.toInt8.toInt32)), (.int (c13.toInt8.toInt32)), (.int (c14.toInt8.toInt32)), (.int (c15.toInt8.toInt32)), (.int (c16.toInt8.toInt32)), (.int (c17.toInt8.toInt32)), (.int (c18.toInt8.toInt32)), (.int (c19.toInt8.toInt32)), (.int ((c20.toInt8.toInt32).toInt8.toInt32)), (.int 0), (.int 0), (.int 0), (.int 0)] (.int 0) := Arv.set Ar132 qk132 qs132 qn132 qh132 qg132 (fits_nar_byte _) W133 20 rfl (Nat.le_of_ble_eq_true rfl)
  rw [own_b8] at V133
  have N133 := Fr.snoc X133 N128 p3_g
  have K134 := K129.wr W133 (Or.inl (List.mem_of_getElem? (i := 0) rfl))
  have f135 := (f130.other W133 p2_ne)
  obtain ⟨cl136, Ar136, qk136, qs136, qn136, qh136, qg136⟩ := id f135
  have hin136 : ¬ ((21 : Int32) < 0 ∨ cl136.slots.size ≤ ((21 : Int32)).toNatClampNeg) := inb_of qs136 ⟨by decide, by decide⟩
  have hat136 : cl136.slots[((21 : Int32)).toNatClampNeg]? = some (.int c21) := qh136.at hin136 rfl
  obtain ⟨cl137, Ar137, qk137, qs137, qn137, qh137, qg137⟩ := id V133
  have hin137 : ¬ ((21 : Int32) < 0 ∨ cl137.slots.size ≤ ((21 : Int32)).toNatClampNeg) := inb_of qs137 ⟨by decide, by decide⟩
  obtain ⟨T138, h138, X138, e138, W138, st138⟩ := stB X133 hx hZ e133 Ar137 (j := (21 : Int32)) hin137 (g := (mkF m 31 #[.val (.ref a0), .val (.int 21), .val (.ref a2), .val (.int 21), .val (.int 25), .val (.int 21), .val (.int c21)] [(.int (c21.toInt8.toInt32)), (.int 21), (.ref a2)])) rfl rfl (hb hby d7_31)
  have V138 : Arv Z h138 a2 k2 .byte (25 : Int32) [(.int (c0.toInt8.toInt32)), (.int (c1.toInt8.toInt32)), (.int (c2.toInt8.toInt32)), (.int (c3.toInt8.toInt32)), (.int (c4.toInt8.toInt32)), (.int (c5.toInt8.toInt32)), (.int (c6.toInt8.toInt32)), (.int (c7.toInt8.toInt32)), (.int (c8.toInt8.toInt32)), (.int (c9.toInt8.toInt32)), (.int (c10.toInt8.toInt32)), (.int (c11.toInt8.toInt32)), (.int (c12.toInt8.toInt32)), (.int (c13.toInt8.toInt32)), (.int (c14.toInt8.toInt32)), (.int (c15.toInt8.toInt32)), (.int (c16.toInt8.toInt32)), (.int (c17.toInt8.toInt32)), (.int (c18.toInt8.toInt32)), (.int (c19.toInt8.toInt32)), (.int (c20.toInt8.toInt32)), (.int ((c21.toInt8.toInt32).toInt8.toInt32)), (.int 0), (.int 0), (.int 0)] (.int 0) := Arv.set Ar137 qk137 qs137 qn137 qh137 qg137 (fits_nar_byte _) W138 21 rfl (Nat.le_of_ble_eq_true rfl)
  rw [own_b8] at V138
  have N138 := Fr.snoc X138 N133 p3_g
  have K139 := K134.wr W138 (Or.inl (List.mem_of_getElem? (i := 0) rfl))
  have f140 := (f135.other W138 p2_ne)
  obtain ⟨cl141, Ar141, qk141, qs141, qn141, qh141, qg141⟩ := id f140
  have hin141 : ¬ ((22 : Int32) < 0 ∨ cl141.slots.size ≤ ((22 : Int32)).toNatClampNeg) := inb_of qs141 ⟨by decide, by decide⟩
  have hat141 : cl141.slots[((22 : Int32)).toNatClampNeg]? = some (.int c22) := qh141.at hin141 rfl
  obtain ⟨cl142, Ar142, qk142, qs142, qn142, qh142, qg142⟩ := id V138
  have hin142 : ¬ ((22 : Int32) < 0 ∨ cl142.slots.size ≤ ((22 : Int32)).toNatClampNeg) := inb_of qs142 ⟨by decide, by decide⟩
  obtain ⟨T143, h143, X143, e143, W143, st143⟩ := stB X138 hx hZ e138 Ar142 (j := (22 : Int32)) hin142 (g := (mkF m 31 #[.val (.ref a0), .val (.int 22), .val (.ref a2), .val (.int 22), .val (.int 25), .val (.int 22), .val (.int c22)] [(.int (c22.toInt8.toInt32)), (.int 22), (.ref a2)])) rfl rfl (hb hby d7_31)
  have V143 : Arv Z h143 a2 k2 .byte (25 : Int32) [(.int (c0.toInt8.toInt32)), (.int (c1.toInt8.toInt32)), (.int (c2.toInt8.toInt32)), (.int (c3.toInt8.toInt32)), (.int (c4.toInt8.toInt32)), (.int (c5.toInt8.toInt32)), (.int (c6.toInt8.toInt32)), (.int (c7.toInt8.toInt32)), (.int (c8.toInt8.toInt32)), (.int (c9.toInt8.toInt32)), (.int (c10.toInt8.toInt32)), (.int (c11.toInt8.toInt32)), (.int (c12.toInt8.toInt32)), (.int (c13.toInt8.toInt32)), (.int (c14.toInt8.toInt32)), (.int (c15.toInt8.toInt32)), (.int (c16.toInt8.toInt32)), (.int (c17.toInt8.toInt32)), (.int (c18.toInt8.toInt32)), (.int (c19.toInt8.toInt32)), (.int (c20.toInt8.toInt32)), (.int (c21.toInt8.toInt32)), (.int ((c22.toInt8.toInt32).toInt8.toInt32)), (.int 0), (.int 0)] (.int 0) := Arv.set Ar142 qk142 qs142 qn142 qh142 qg142 (fits_nar_byte _) W143 22 rfl (Nat.le_of_ble_eq_true rfl)
  rw [own_b8] at V143
  have N143 := Fr.snoc X143 N138 p3_g
  have K144 := K139.wr W143 (Or.inl (List.mem_of_getElem? (i := 0) rfl))
  have f145 := (f140.other W143 p2_ne)
  obtain ⟨cl146, Ar146, qk146, qs146, qn146, qh146, qg146⟩ := id f145
  have hin146 : ¬ ((23 : Int32) < 0 ∨ cl146.slots.size ≤ ((23 : Int32)).toNatClampNeg) := inb_of qs146 ⟨by decide, by decide⟩
  have hat146 : cl146.slots[((23 : Int32)).toNatClampNeg]? = some (.int c23) := qh146.at hin146 rfl
  obtain ⟨cl147, Ar147, qk147, qs147, qn147, qh147, qg147⟩ := id V143
  have hin147 : ¬ ((23 : Int32) < 0 ∨ cl147.slots.size ≤ ((23 : Int32)).toNatClampNeg) := inb_of qs147 ⟨by decide, by decide⟩
  obtain ⟨T148, h148, X148, e148, W148, st148⟩ := stB X143 hx hZ e143 Ar147 (j := (23 : Int32)) hin147 (g := (mkF m 31 #[.val (.ref a0), .val (.int 23), .val (.ref a2), .val (.int 23), .val (.int 25), .val (.int 23), .val (.int c23)] [(.int (c23.toInt8.toInt32)), (.int 23), (.ref a2)])) rfl rfl (hb hby d7_31)
  have V148 : Arv Z h148 a2 k2 .byte (25 : Int32) [(.int (c0.toInt8.toInt32)), (.int (c1.toInt8.toInt32)), (.int (c2.toInt8.toInt32)), (.int (c3.toInt8.toInt32)), (.int (c4.toInt8.toInt32)), (.int (c5.toInt8.toInt32)), (.int (c6.toInt8.toInt32)), (.int (c7.toInt8.toInt32)), (.int (c8.toInt8.toInt32)), (.int (c9.toInt8.toInt32)), (.int (c10.toInt8.toInt32)), (.int (c11.toInt8.toInt32)), (.int (c12.toInt8.toInt32)), (.int (c13.toInt8.toInt32)), (.int (c14.toInt8.toInt32)), (.int (c15.toInt8.toInt32)), (.int (c16.toInt8.toInt32)), (.int (c17.toInt8.toInt32)), (.int (c18.toInt8.toInt32)), (.int (c19.toInt8.toInt32)), (.int (c20.toInt8.toInt32)), (.int (c21.toInt8.toInt32)), (.int (c22.toInt8.toInt32)), (.int ((c23.toInt8.toInt32).toInt8.toInt32)), (.int 0)] (.int 0) := Arv.set Ar147 qk147 qs147 qn147 qh147 qg147 (fits_nar_byte _) W148 23 rfl (Nat.le_of_ble_eq_true rfl)
  rw [own_b8] at V148
  have N148 := Fr.snoc X148 N143 p3_g
  have K149 := K144.wr W148 (Or.inl (List.mem_of_getElem? (i := 0) rfl))
  have f150 := (f145.other W148 p2_ne)
  obtain ⟨cl151, Ar151, qk151, qs151, qn151, qh151, qg151⟩ := id f150
  have hin151 : ¬ ((24 : Int32) < 0 ∨ cl151.slots.size ≤ ((24 : Int32)).toNatClampNeg) := inb_of qs151 ⟨by decide, by decide⟩
  have hat151 : cl151.slots[((24 : Int32)).toNatClampNeg]? = some (.int c24) := qh151.at hin151 rfl
  obtain ⟨cl152, Ar152, qk152, qs152, qn152, qh152, qg152⟩ := id V148
  have hin152 : ¬ ((24 : Int32) < 0 ∨ cl152.slots.size ≤ ((24 : Int32)).toNatClampNeg) := inb_of qs152 ⟨by decide, by decide⟩
  obtain ⟨T153, h153, X153, e153, W153, st153⟩ := stB X148 hx hZ e148 Ar152 (j := (24 : Int32)) hin152 (g := (mkF m 31 #[.val (.ref a0), .val (.int 24), .val (.ref a2), .val (.int 24), .val (.int 25), .val (.int 24), .val (.int c24)] [(.int (c24.toInt8.toInt32)), (.int 24), (.ref a2)])) rfl rfl (hb hby d7_31)
  have V153 : Arv Z h153 a2 k2 .byte (25 : Int32) [(.int (c0.toInt8.toInt32)), (.int (c1.toInt8.toInt32)), (.int (c2.toInt8.toInt32)), (.int (c3.toInt8.toInt32)), (.int (c4.toInt8.toInt32)), (.int (c5.toInt8.toInt32)), (.int (c6.toInt8.toInt32)), (.int (c7.toInt8.toInt32)), (.int (c8.toInt8.toInt32)), (.int (c9.toInt8.toInt32)), (.int (c10.toInt8.toInt32)), (.int (c11.toInt8.toInt32)), (.int (c12.toInt8.toInt32)), (.int (c13.toInt8.toInt32)), (.int (c14.toInt8.toInt32)), (.int (c15.toInt8.toInt32)), (.int (c16.toInt8.toInt32)), (.int (c17.toInt8.toInt32)), (.int (c18.toInt8.toInt32)), (.int (c19.toInt8.toInt32)), (.int (c20.toInt8.toInt32)), (.int (c21.toInt8.toInt32)), (.int (c22.toInt8.toInt32)), (.int (c23.toInt8.toInt32)), (.int ((c24.toInt8.toInt32).toInt8.toInt32))] (.int 0) := Arv.set Ar152 qk152 qs152 qn152 qh152 qg152 (fits_nar_byte _) W153 24 rfl (Nat.le_of_ble_eq_true rfl)
  rw [own_b8] at V153
  have N153 := Fr.snoc X153 N148 p3_g
  have K154 := K149.wr W153 (Or.inl (List.mem_of_getElem? (i := 0) rfl))
  obtain ⟨fs, hrL, hrun, hended, hW, hsame⟩ := X153.leave (v := some (.int 25)) (fun h => by rw [Bd.returns] at h; cases h)
  refine ⟨_, _, pre0 _ ?_, hrun, hended, _, _, rfl, ?_, ⟨_, rfl⟩, hW, hsame.mono (by decide) (by decide)⟩
  · show Steps p.tables e below (s₁.setTop (mkF m 0 #[.val (.ref a0), .val (.int 0), .val (.ref a2), .val (.int 0), .val (.int 25), .unset, .unset] [])) _
    refine XS.iconst X0.here hx rfl (hb hby d7_0) ?_
    refine XS.istore X0.here hx rfl (hb hby d7_1) rfl (l' := #[.val (.ref a0), .val (.int 0), .val (.ref a2), .val (.int 0), .val (.int 25), .val (.int 0), .unset]) rfl ?_
    refine XS.iload X0.here hx rfl (hb hby d7_3) rfl ?_
    show Steps p.tables e below (s₁.setTop (mkF m 5 #[.val (.ref a0), .val (.int 0), .val (.ref a2), .val (.int 0), .val (.int 25), .val (.int 0), .unset] [(.int 0)])) _
    refine XS.iload X0.here hx rfl (hb hby d7_5) rfl ?_
    show Steps p.tables e below (s₁.setTop (mkF m 7 #[.val (.ref a0), .val (.int 0), .val (.ref a2), .val (.int 0), .val (.int 25), .val (.int 0), .unset] [(.int 25), (.int 0)])) _
    refine XS.icmpNo X0.here hx rfl (hb hby d7_7) rfl (tlt (by decide : (0 : Int32) < (25 : Int32))).2.1 ?_
    refine XS.aloadN X0.here hx rfl (hb hby d7_10) rfl rfl ?_
    refine XS.iloadN X0.here hx rfl (hb hby d7_11) rfl ?_
    show Steps p.tables e below (s₁.setTop (mkF m 12 #[.val (.ref a0), .val (.int 0), .val (.ref a2), .val (.int 0), .val (.int 25), .val (.int 0), .unset] [(.int 0), (.ref a0)])) _
    refine X0.caload hx (j := (0 : Int32)) (v := (.int c0)) (by rw [e0]; exact Ar31.1) (State.isArrayOf_alike hZ.alike Ar31.2.1) Ar31.2.2 hin31 hat31 (g := (mkF m 12 #[.val (.ref a0), .val (.int 0), .val (.ref a2), .val (.int 0), .val (.int 25), .val (.int 0), .unset] [(.int 0), (.ref a0)])) rfl rfl (hb hby d7_12) _ ?_
    refine XS.istore X0.here hx rfl (hb hby d7_13) rfl (l' := #[.val (.ref a0), .val (.int 0), .val (.ref a2), .val (.int 0), .val (.int 25), .val (.int 0), .val (.int c0)]) rfl ?_
    refine XS.iload X0.here hx rfl (hb hby d7_15) rfl ?_
    refine XS.sipush X0.here hx rfl (hb hby d7_17) ?_
    show Steps p.tables e below (s₁.setTop (mkF m 20 #[.val (.ref a0), .val (.int 0), .val (.ref a2), .val (.int 0), .val (.int 25), .val (.int 0), .val (.int c0)] [(.int 255), (.int c0)])) _
    refine XS.icmpYes X0.here hx rfl (pc0 := 20) (pc' := 26) rfl (hb hby d7_20) rfl (flt hc_0).2.2.2 (by decide) (by decide) ?_
    refine XS.aloadN X0.here hx rfl (hb hby d7_26) rfl rfl ?_
    refine XS.iloadN X0.here hx rfl (hb hby d7_27) rfl ?_
    refine XS.iload X0.here hx rfl (hb hby d7_28) rfl ?_
    show Steps p.tables e below (s₁.setTop (mkF m 30 #[.val (.ref a0), .val (.int 0), .val (.ref a2), .val (.int 0), .val (.int 25), .val (.int 0), .val (.int c0)] [(.int c0), (.int 0), (.ref a2)])) _
    refine XS.i2b X0.here hx rfl (hb hby d7_30) rfl ?_
    show Steps p.tables e below (s₁.setTop (mkF m 31 #[.val (.ref a0), .val (.int 0), .val (.ref a2), .val (.int 0), .val (.int 25), .val (.int 0), .val (.int c0)] [(.int (c0.toInt8.toInt32)), (.int 0), (.ref a2)])) _
    refine st33 _ ?_
    show Steps p.tables e below (T33.setTop (mkF m 32 #[.val (.ref a0), .val (.int 0), .val (.ref a2), .val (.int 0), .val (.int 25), .val (.int 0), .val (.int c0)] [])) _
    refine XS.iinc X33.here hx rfl (hb hby d7_32) rfl (l' := #[.val (.ref a0), .val (.int 1), .val (.ref a2), .val (.int 0), .val (.int 25), .val (.int 0), .val (.int c0)]) rfl ?_
    show Steps p.tables e below (T33.setTop (mkF m 35 #[.val (.ref a0), .val (.int 1), .val (.ref a2), .val (.int 0), .val (.int 25), .val (.int 0), .val (.int c0)] [])) _
    refine XS.iinc X33.here hx rfl (hb hby d7_35) rfl (l' := #[.val (.ref a0), .val (.int 1), .val (.ref a2), .val (.int 1), .val (.int 25), .val (.int 0), .val (.int c0)]) rfl ?_
    show Steps p.tables e below (T33.setTop (mkF m 38 #[.val (.ref a0), .val (.int 1), .val (.ref a2), .val (.int 1), .val (.int 25), .val (.int 0), .val (.int c0)] [])) _
    refine XS.iinc X33.here hx rfl (hb hby d7_38) rfl (l' := #[.val (.ref a0), .val (.int 1), .val (.ref a2), .val (.int 1), .val (.int 25), .val (.int 1), .val (.int c0)]) rfl ?_
    refine XS.goto X33.here hx rfl (pc0 := 41) (pc' := 3) rfl (hb hby d7_41) (by decide) (by decide) ?_
    refine XS.iload X33.here hx rfl (hb hby d7_3) rfl ?_
    refine XS.iload X33.here hx rfl (hb hby d7_5) rfl ?_
    show Steps p.tables e below (T33.setTop (mkF m 7 #[.val (.ref a0), .val (.int 1), .val (.ref a2), .val (.int 1), .val (.int 25), .val (.int 1), .val (.int c0)] [(.int 25), (.int 1)])) _
    refine XS.icmpNo X33.here hx rfl (hb hby d7_7) rfl (tlt (by decide : (1 : Int32) < (25 : Int32))).2.1 ?_
    refine XS.aloadN X33.here hx rfl (hb hby d7_10) rfl rfl ?_
    refine XS.iloadN X33.here hx rfl (hb hby d7_11) rfl ?_
    show Steps p.tables e below (T33.setTop (mkF m 12 #[.val (.ref a0), .val (.int 1), .val (.ref a2), .val (.int 1), .val (.int 25), .val (.int 1), .val (.int c0)] [(.int 1), (.ref a0)])) _
    refine X33.caload hx (j := (1 : Int32)) (v := (.int c1)) (by rw [e33]; exact Ar36.1) (State.isArrayOf_alike hZ.alike Ar36.2.1) Ar36.2.2 hin36 hat36 (g := (mkF m 12 #[.val (.ref a0), .val (.int 1), .val (.ref a2), .val (.int 1), .val (.int 25), .val (.int 1), .val (.int c0)] [(.int 1), (.ref a0)])) rfl rfl (hb hby d7_12) _ ?_
    show Steps p.tables e below (T33.setTop (mkF m 13 #[.val (.ref a0), .val (.int 1), .val (.ref a2), .val (.int 1), .val (.int 25), .val (.int 1), .val (.int c0)] [(.int c1)])) _
    refine XS.istore X33.here hx rfl (hb hby d7_13) rfl (l' := #[.val (.ref a0), .val (.int 1), .val (.ref a2), .val (.int 1), .val (.int 25), .val (.int 1), .val (.int c1)]) rfl ?_
    refine XS.iload X33.here hx rfl (hb hby d7_15) rfl ?_
    refine XS.sipush X33.here hx rfl (hb hby d7_17) ?_
    show Steps p.tables e below (T33.setTop (mkF m 20 #[.val (.ref a0), .val (.int 1), .val (.ref a2), .val (.int 1), .val (.int 25), .val (.int 1), .val (.int c1)] [(.int 255), (.int c1)])) _
    refine XS.icmpYes X33.here hx rfl (pc0 := 20) (pc' := 26) rfl (hb hby d7_20) rfl (flt hc_1).2.2.2 (by decide) (by decide) ?_
    show Steps p.tables e below (T33.setTop (mkF m 26 #[.val (.ref a0), .val (.int 1), .val (.ref a2), .val (.int 1), .val (.int 25), .val (.int 1), .val (.int c1)] [])) _
    refine XS.aloadN X33.here hx rfl (hb hby d7_26) rfl rfl ?_
    refine XS.iloadN X33.here hx rfl (hb hby d7_27) rfl ?_
    refine XS.iload X33.here hx rfl (hb hby d7_28) rfl ?_
    show Steps p.tables e below (T33.setTop (mkF m 30 #[.val (.ref a0), .val (.int 1), .val (.ref a2), .val (.int 1), .val (.int 25), .val (.int 1), .val (.int c1)] [(.int c1), (.int 1), (.ref a2)])) _
    refine XS.i2b X33.here hx rfl (hb hby d7_30) rfl ?_
    show Steps p.tables e below (T33.setTop (mkF m 31 #[.val (.ref a0), .val (.int 1), .val (.ref a2), .val (.int 1), .val (.int 25), .val (.int 1), .val (.int c1)] [(.int (c1.toInt8.toInt32)), (.int 1), (.ref a2)])) _
    refine st38 _ ?_
    show Steps p.tables e below (T38.setTop (mkF m 32 #[.val (.ref a0), .val (.int 1), .val (.ref a2), .val (.int 1), .val (.int 25), .val (.int 1), .val (.int c1)] [])) _
    refine XS.iinc X38.here hx rfl (hb hby d7_32) rfl (l' := #[.val (.ref a0), .val (.int 2), .val (.ref a2), .val (.int 1), .val (.int 25), .val (.int 1), .val (.int c1)]) rfl ?_
    show Steps p.tables e below (T38.setTop (mkF m 35 #[.val (.ref a0), .val (.int 2), .val (.ref a2), .val (.int 1), .val (.int 25), .val (.int 1), .val (.int c1)] [])) _
    refine XS.iinc X38.here hx rfl (hb hby d7_35) rfl (l' := #[.val (.ref a0), .val (.int 2), .val (.ref a2), .val (.int 2), .val (.int 25), .val (.int 1), .val (.int c1)]) rfl ?_
    show Steps p.tables e below (T38.setTop (mkF m 38 #[.val (.ref a0), .val (.int 2), .val (.ref a2), .val (.int 2), .val (.int 25), .val (.int 1), .val (.int c1)] [])) _
    refine XS.iinc X38.here hx rfl (hb hby d7_38) rfl (l' := #[.val (.ref a0), .val (.int 2), .val (.ref a2), .val (.int 2), .val (.int 25), .val (.int 2), .val (.int c1)]) rfl ?_
    show Steps p.tables e below (T38.setTop (mkF m 41 #[.val (.ref a0), .val (.int 2), .val (.ref a2), .val (.int 2), .val (.int 25), .val (.int 2), .val (.int c1)] [])) _
    refine XS.goto X38.here hx rfl (pc0 := 41) (pc' := 3) rfl (hb hby d7_41) (by decide) (by decide) ?_
    refine XS.iload X38.here hx rfl (hb hby d7_3) rfl ?_
    refine XS.iload X38.here hx rfl (hb hby d7_5) rfl ?_
    show Steps p.tables e below (T38.setTop (mkF m 7 #[.val (.ref a0), .val (.int 2), .val (.ref a2), .val (.int 2), .val (.int 25), .val (.int 2), .val (.int c1)] [(.int 25), (.int 2)])) _
    refine XS.icmpNo X38.here hx rfl (hb hby d7_7) rfl (tlt (by decide : (2 : Int32) < (25 : Int32))).2.1 ?_
    show Steps p.tables e below (T38.setTop (mkF m 10 #[.val (.ref a0), .val (.int 2), .val (.ref a2), .val (.int 2), .val (.int 25), .val (.int 2), .val (.int c1)] [])) _
    refine XS.aloadN X38.here hx rfl (hb hby d7_10) rfl rfl ?_
    refine XS.iloadN X38.here hx rfl (hb hby d7_11) rfl ?_
    show Steps p.tables e below (T38.setTop (mkF m 12 #[.val (.ref a0), .val (.int 2), .val (.ref a2), .val (.int 2), .val (.int 25), .val (.int 2), .val (.int c1)] [(.int 2), (.ref a0)])) _
    refine X38.caload hx (j := (2 : Int32)) (v := (.int c2)) (by rw [e38]; exact Ar41.1) (State.isArrayOf_alike hZ.alike Ar41.2.1) Ar41.2.2 hin41 hat41 (g := (mkF m 12 #[.val (.ref a0), .val (.int 2), .val (.ref a2), .val (.int 2), .val (.int 25), .val (.int 2), .val (.int c1)] [(.int 2), (.ref a0)])) rfl rfl (hb hby d7_12) _ ?_
    refine XS.istore X38.here hx rfl (hb hby d7_13) rfl (l' := #[.val (.ref a0), .val (.int 2), .val (.ref a2), .val (.int 2), .val (.int 25), .val (.int 2), .val (.int c2)]) rfl ?_
    show Steps p.tables e below (T38.setTop (mkF m 15 #[.val (.ref a0), .val (.int 2), .val (.ref a2), .val (.int 2), .val (.int 25), .val (.int 2), .val (.int c2)] [])) _
    refine XS.iload X38.here hx rfl (hb hby d7_15) rfl ?_
    refine XS.sipush X38.here hx rfl (hb hby d7_17) ?_
    show Steps p.tables e below (T38.setTop (mkF m 20 #[.val (.ref a0), .val (.int 2), .val (.ref a2), .val (.int 2), .val (.int 25), .val (.int 2), .val (.int c2)] [(.int 255), (.int c2)])) _
    refine XS.icmpYes X38.here hx rfl (pc0 := 20) (pc' := 26) rfl (hb hby d7_20) rfl (flt hc_2).2.2.2 (by decide) (by decide) ?_
    refine XS.aloadN X38.here hx rfl (hb hby d7_26) rfl rfl ?_
    show Steps p.tables e below (T38.setTop (mkF m 27 #[.val (.ref a0), .val (.int 2), .val (.ref a2), .val (.int 2), .val (.int 25), .val (.int 2), .val (.int c2)] [(.ref a2)])) _
    refine XS.iloadN X38.here hx rfl (hb hby d7_27) rfl ?_
    refine XS.iload X38.here hx rfl (hb hby d7_28) rfl ?_
    show Steps p.tables e below (T38.setTop (mkF m 30 #[.val (.ref a0), .val (.int 2), .val (.ref a2), .val (.int 2), .val (.int 25), .val (.int 2), .val (.int c2)] [(.int c2), (.int 2), (.ref a2)])) _
    refine XS.i2b X38.here hx rfl (hb hby d7_30) rfl ?_
    show Steps p.tables e below (T38.setTop (mkF m 31 #[.val (.ref a0), .val (.int 2), .val (.ref a2), .val (.int 2), .val (.int 25), .val (.int 2), .val (.int c2)] [(.int (c2.toInt8.toInt32)), (.int 2), (.ref a2)])) _
    refine st43 _ ?_
    show Steps p.tables e below (T43.setTop (mkF m 32 #[.val (.ref a0), .val (.int 2), .val (.ref a2), .val (.int 2), .val (.int 25), .val (.int 2), .val (.int c2)] [])) _
    refine XS.iinc X43.here hx rfl (hb hby d7_32) rfl (l' := #[.val (.ref a0), .val (.int 3), .val (.ref a2), .val (.int 2), .val (.int 25), .val (.int 2), .val (.int c2)]) rfl ?_
    show Steps p.tables e below (T43.setTop (mkF m 35 #[.val (.ref a0), .val (.int 3), .val (.ref a2), .val (.int 2), .val (.int 25), .val (.int 2), .val (.int c2)] [])) _
    refine XS.iinc X43.here hx rfl (hb hby d7_35) rfl (l' := #[.val (.ref a0), .val (.int 3), .val (.ref a2), .val (.int 3), .val (.int 25), .val (.int 2), .val (.int c2)]) rfl ?_
    show Steps p.tables e below (T43.setTop (mkF m 38 #[.val (.ref a0), .val (.int 3), .val (.ref a2), .val (.int 3), .val (.int 25), .val (.int 2), .val (.int c2)] [])) _
    refine XS.iinc X43.here hx rfl (hb hby d7_38) rfl (l' := #[.val (.ref a0), .val (.int 3), .val (.ref a2), .val (.int 3), .val (.int 25), .val (.int 3), .val (.int c2)]) rfl ?_
    refine XS.goto X43.here hx rfl (pc0 := 41) (pc' := 3) rfl (hb hby d7_41) (by decide) (by decide) ?_
    show Steps p.tables e below (T43.setTop (mkF m 3 #[.val (.ref a0), .val (.int 3), .val (.ref a2), .val (.int 3), .val (.int 25), .val (.int 3), .val (.int c2)] [])) _
    refine XS.iload X43.here hx rfl (hb hby d7_3) rfl ?_
    refine XS.iload X43.here hx rfl (hb hby d7_5) rfl ?_
    show Steps p.tables e below (T43.setTop (mkF m 7 #[.val (.ref a0), .val (.int 3), .val (.ref a2), .val (.int 3), .val (.int 25), .val (.int 3), .val (.int c2)] [(.int 25), (.int 3)])) _
    refine XS.icmpNo X43.here hx rfl (hb hby d7_7) rfl (tlt (by decide : (3 : Int32) < (25 : Int32))).2.1 ?_
    refine XS.aloadN X43.here hx rfl (hb hby d7_10) rfl rfl ?_
    show Steps p.tables e below (T43.setTop (mkF m 11 #[.val (.ref a0), .val (.int 3), .val (.ref a2), .val (.int 3), .val (.int 25), .val (.int 3), .val (.int c2)] [(.ref a0)])) _
    refine XS.iloadN X43.here hx rfl (hb hby d7_11) rfl ?_
    show Steps p.tables e below (T43.setTop (mkF m 12 #[.val (.ref a0), .val (.int 3), .val (.ref a2), .val (.int 3), .val (.int 25), .val (.int 3), .val (.int c2)] [(.int 3), (.ref a0)])) _
    refine X43.caload hx (j := (3 : Int32)) (v := (.int c3)) (by rw [e43]; exact Ar46.1) (State.isArrayOf_alike hZ.alike Ar46.2.1) Ar46.2.2 hin46 hat46 (g := (mkF m 12 #[.val (.ref a0), .val (.int 3), .val (.ref a2), .val (.int 3), .val (.int 25), .val (.int 3), .val (.int c2)] [(.int 3), (.ref a0)])) rfl rfl (hb hby d7_12) _ ?_
    refine XS.istore X43.here hx rfl (hb hby d7_13) rfl (l' := #[.val (.ref a0), .val (.int 3), .val (.ref a2), .val (.int 3), .val (.int 25), .val (.int 3), .val (.int c3)]) rfl ?_
    refine XS.iload X43.here hx rfl (hb hby d7_15) rfl ?_
    show Steps p.tables e below (T43.setTop (mkF m 17 #[.val (.ref a0), .val (.int 3), .val (.ref a2), .val (.int 3), .val (.int 25), .val (.int 3), .val (.int c3)] [(.int c3)])) _
    refine XS.sipush X43.here hx rfl (hb hby d7_17) ?_
    show Steps p.tables e below (T43.setTop (mkF m 20 #[.val (.ref a0), .val (.int 3), .val (.ref a2), .val (.int 3), .val (.int 25), .val (.int 3), .val (.int c3)] [(.int 255), (.int c3)])) _
    refine XS.icmpYes X43.here hx rfl (pc0 := 20) (pc' := 26) rfl (hb hby d7_20) rfl (flt hc_3).2.2.2 (by decide) (by decide) ?_
    refine XS.aloadN X43.here hx rfl (hb hby d7_26) rfl rfl ?_
    refine XS.iloadN X43.here hx rfl (hb hby d7_27) rfl ?_
    show Steps p.tables e below (T43.setTop (mkF m 28 #[.val (.ref a0), .val (.int 3), .val (.ref a2), .val (.int 3), .val (.int 25), .val (.int 3), .val (.int c3)] [(.int 3), (.ref a2)])) _
    refine XS.iload X43.here hx rfl (hb hby d7_28) rfl ?_
    show Steps p.tables e below (T43.setTop (mkF m 30 #[.val (.ref a0), .val (.int 3), .val (.ref a2), .val (.int 3), .val (.int 25), .val (.int 3), .val (.int c3)] [(.int c3), (.int 3), (.ref a2)])) _
    refine XS.i2b X43.here hx rfl (hb hby d7_30) rfl ?_
    show Steps p.tables e below (T43.setTop (mkF m 31 #[.val (.ref a0), .val (.int 3), .val (.ref a2), .val (.int 3), .val (.int 25), .val (.int 3), .val (.int c3)] [(.int (c3.toInt8.toInt32)), (.int 3), (.ref a2)])) _
    refine st48 _ ?_
    show Steps p.tables e below (T48.setTop (mkF m 32 #[.val (.ref a0), .val (.int 3), .val (.ref a2), .val (.int 3), .val (.int 25), .val (.int 3), .val (.int c3)] [])) _
    refine XS.iinc X48.here hx rfl (hb hby d7_32) rfl (l' := #[.val (.ref a0), .val (.int 4), .val (.ref a2), .val (.int 3), .val (.int 25), .val (.int 3), .val (.int c3)]) rfl ?_
    show Steps p.tables e below (T48.setTop (mkF m 35 #[.val (.ref a0), .val (.int 4), .val (.ref a2), .val (.int 3), .val (.int 25), .val (.int 3), .val (.int c3)] [])) _
    refine XS.iinc X48.here hx rfl (hb hby d7_35) rfl (l' := #[.val (.ref a0), .val (.int 4), .val (.ref a2), .val (.int 4), .val (.int 25), .val (.int 3), .val (.int c3)]) rfl ?_
    show Steps p.tables e below (T48.setTop (mkF m 38 #[.val (.ref a0), .val (.int 4), .val (.ref a2), .val (.int 4), .val (.int 25), .val (.int 3), .val (.int c3)] [])) _
    refine XS.iinc X48.here hx rfl (hb hby d7_38) rfl (l' := #[.val (.ref a0), .val (.int 4), .val (.ref a2), .val (.int 4), .val (.int 25), .val (.int 4), .val (.int c3)]) rfl ?_
    refine XS.goto X48.here hx rfl (pc0 := 41) (pc' := 3) rfl (hb hby d7_41) (by decide) (by decide) ?_
    refine XS.iload X48.here hx rfl (hb hby d7_3) rfl ?_
    show Steps p.tables e below (T48.setTop (mkF m 5 #[.val (.ref a0), .val (.int 4), .val (.ref a2), .val (.int 4), .val (.int 25), .val (.int 4), .val (.int c3)] [(.int 4)])) _
    refine XS.iload X48.here hx rfl (hb hby d7_5) rfl ?_
    show Steps p.tables e below (T48.setTop (mkF m 7 #[.val (.ref a0), .val (.int 4), .val (.ref a2), .val (.int 4), .val (.int 25), .val (.int 4), .val (.int c3)] [(.int 25), (.int 4)])) _
    refine XS.icmpNo X48.here hx rfl (hb hby d7_7) rfl (tlt (by decide : (4 : Int32) < (25 : Int32))).2.1 ?_
    refine XS.aloadN X48.here hx rfl (hb hby d7_10) rfl rfl ?_
    refine XS.iloadN X48.here hx rfl (hb hby d7_11) rfl ?_
    show Steps p.tables e below (T48.setTop (mkF m 12 #[.val (.ref a0), .val (.int 4), .val (.ref a2), .val (.int 4), .val (.int 25), .val (.int 4), .val (.int c3)] [(.int 4), (.ref a0)])) _
    refine X48.caload hx (j := (4 : Int32)) (v := (.int c4)) (by rw [e48]; exact Ar51.1) (State.isArrayOf_alike hZ.alike Ar51.2.1) Ar51.2.2 hin51 hat51 (g := (mkF m 12 #[.val (.ref a0), .val (.int 4), .val (.ref a2), .val (.int 4), .val (.int 25), .val (.int 4), .val (.int c3)] [(.int 4), (.ref a0)])) rfl rfl (hb hby d7_12) _ ?_
    refine XS.istore X48.here hx rfl (hb hby d7_13) rfl (l' := #[.val (.ref a0), .val (.int 4), .val (.ref a2), .val (.int 4), .val (.int 25), .val (.int 4), .val (.int c4)]) rfl ?_
    refine XS.iload X48.here hx rfl (hb hby d7_15) rfl ?_
    refine XS.sipush X48.here hx rfl (hb hby d7_17) ?_
    show Steps p.tables e below (T48.setTop (mkF m 20 #[.val (.ref a0), .val (.int 4), .val (.ref a2), .val (.int 4), .val (.int 25), .val (.int 4), .val (.int c4)] [(.int 255), (.int c4)])) _
    refine XS.icmpYes X48.here hx rfl (pc0 := 20) (pc' := 26) rfl (hb hby d7_20) rfl (flt hc_4).2.2.2 (by decide) (by decide) ?_
    refine XS.aloadN X48.here hx rfl (hb hby d7_26) rfl rfl ?_
    refine XS.iloadN X48.here hx rfl (hb hby d7_27) rfl ?_
    refine XS.iload X48.here hx rfl (hb hby d7_28) rfl ?_
    show Steps p.tables e below (T48.setTop (mkF m 30 #[.val (.ref a0), .val (.int 4), .val (.ref a2), .val (.int 4), .val (.int 25), .val (.int 4), .val (.int c4)] [(.int c4), (.int 4), (.ref a2)])) _
    refine XS.i2b X48.here hx rfl (hb hby d7_30) rfl ?_
    show Steps p.tables e below (T48.setTop (mkF m 31 #[.val (.ref a0), .val (.int 4), .val (.ref a2), .val (.int 4), .val (.int 25), .val (.int 4), .val (.int c4)] [(.int (c4.toInt8.toInt32)), (.int 4), (.ref a2)])) _
    refine st53 _ ?_
    show Steps p.tables e below (T53.setTop (mkF m 32 #[.val (.ref a0), .val (.int 4), .val (.ref a2), .val (.int 4), .val (.int 25), .val (.int 4), .val (.int c4)] [])) _
    refine XS.iinc X53.here hx rfl (hb hby d7_32) rfl (l' := #[.val (.ref a0), .val (.int 5), .val (.ref a2), .val (.int 4), .val (.int 25), .val (.int 4), .val (.int c4)]) rfl ?_
    show Steps p.tables e below (T53.setTop (mkF m 35 #[.val (.ref a0), .val (.int 5), .val (.ref a2), .val (.int 4), .val (.int 25), .val (.int 4), .val (.int c4)] [])) _
    refine XS.iinc X53.here hx rfl (hb hby d7_35) rfl (l' := #[.val (.ref a0), .val (.int 5), .val (.ref a2), .val (.int 5), .val (.int 25), .val (.int 4), .val (.int c4)]) rfl ?_
    show Steps p.tables e below (T53.setTop (mkF m 38 #[.val (.ref a0), .val (.int 5), .val (.ref a2), .val (.int 5), .val (.int 25), .val (.int 4), .val (.int c4)] [])) _
    refine XS.iinc X53.here hx rfl (hb hby d7_38) rfl (l' := #[.val (.ref a0), .val (.int 5), .val (.ref a2), .val (.int 5), .val (.int 25), .val (.int 5), .val (.int c4)]) rfl ?_
    refine XS.goto X53.here hx rfl (pc0 := 41) (pc' := 3) rfl (hb hby d7_41) (by decide) (by decide) ?_
    refine XS.iload X53.here hx rfl (hb hby d7_3) rfl ?_
    refine XS.iload X53.here hx rfl (hb hby d7_5) rfl ?_
    show Steps p.tables e below (T53.setTop (mkF m 7 #[.val (.ref a0), .val (.int 5), .val (.ref a2), .val (.int 5), .val (.int 25), .val (.int 5), .val (.int c4)] [(.int 25), (.int 5)])) _
    refine XS.icmpNo X53.here hx rfl (hb hby d7_7) rfl (tlt (by decide : (5 : Int32) < (25 : Int32))).2.1 ?_
    refine XS.aloadN X53.here hx rfl (hb hby d7_10) rfl rfl ?_
    refine XS.iloadN X53.here hx rfl (hb hby d7_11) rfl ?_
    show Steps p.tables e below (T53.setTop (mkF m 12 #[.val (.ref a0), .val (.int 5), .val (.ref a2), .val (.int 5), .val (.int 25), .val (.int 5), .val (.int c4)] [(.int 5), (.ref a0)])) _
    refine X53.caload hx (j := (5 : Int32)) (v := (.int c5)) (by rw [e53]; exact Ar56.1) (State.isArrayOf_alike hZ.alike Ar56.2.1) Ar56.2.2 hin56 hat56 (g := (mkF m 12 #[.val (.ref a0), .val (.int 5), .val (.ref a2), .val (.int 5), .val (.int 25), .val (.int 5), .val (.int c4)] [(.int 5), (.ref a0)])) rfl rfl (hb hby d7_12) _ ?_
    show Steps p.tables e below (T53.setTop (mkF m 13 #[.val (.ref a0), .val (.int 5), .val (.ref a2), .val (.int 5), .val (.int 25), .val (.int 5), .val (.int c4)] [(.int c5)])) _
    refine XS.istore X53.here hx rfl (hb hby d7_13) rfl (l' := #[.val (.ref a0), .val (.int 5), .val (.ref a2), .val (.int 5), .val (.int 25), .val (.int 5), .val (.int c5)]) rfl ?_
    refine XS.iload X53.here hx rfl (hb hby d7_15) rfl ?_
    refine XS.sipush X53.here hx rfl (hb hby d7_17) ?_
    show Steps p.tables e below (T53.setTop (mkF m 20 #[.val (.ref a0), .val (.int 5), .val (.ref a2), .val (.int 5), .val (.int 25), .val (.int 5), .val (.int c5)] [(.int 255), (.int c5)])) _
    refine XS.icmpYes X53.here hx rfl (pc0 := 20) (pc' := 26) rfl (hb hby d7_20) rfl (flt hc_5).2.2.2 (by decide) (by decide) ?_
    show Steps p.tables e below (T53.setTop (mkF m 26 #[.val (.ref a0), .val (.int 5), .val (.ref a2), .val (.int 5), .val (.int 25), .val (.int 5), .val (.int c5)] [])) _
    refine XS.aloadN X53.here hx rfl (hb hby d7_26) rfl rfl ?_
    refine XS.iloadN X53.here hx rfl (hb hby d7_27) rfl ?_
    refine XS.iload X53.here hx rfl (hb hby d7_28) rfl ?_
    show Steps p.tables e below (T53.setTop (mkF m 30 #[.val (.ref a0), .val (.int 5), .val (.ref a2), .val (.int 5), .val (.int 25), .val (.int 5), .val (.int c5)] [(.int c5), (.int 5), (.ref a2)])) _
    refine XS.i2b X53.here hx rfl (hb hby d7_30) rfl ?_
    show Steps p.tables e below (T53.setTop (mkF m 31 #[.val (.ref a0), .val (.int 5), .val (.ref a2), .val (.int 5), .val (.int 25), .val (.int 5), .val (.int c5)] [(.int (c5.toInt8.toInt32)), (.int 5), (.ref a2)])) _
    refine st58 _ ?_
    show Steps p.tables e below (T58.setTop (mkF m 32 #[.val (.ref a0), .val (.int 5), .val (.ref a2), .val (.int 5), .val (.int 25), .val (.int 5), .val (.int c5)] [])) _
    refine XS.iinc X58.here hx rfl (hb hby d7_32) rfl (l' := #[.val (.ref a0), .val (.int 6), .val (.ref a2), .val (.int 5), .val (.int 25), .val (.int 5), .val (.int c5)]) rfl ?_
    show Steps p.tables e below (T58.setTop (mkF m 35 #[.val (.ref a0), .val (.int 6), .val (.ref a2), .val (.int 5), .val (.int 25), .val (.int 5), .val (.int c5)] [])) _
    refine XS.iinc X58.here hx rfl (hb hby d7_35) rfl (l' := #[.val (.ref a0), .val (.int 6), .val (.ref a2), .val (.int 6), .val (.int 25), .val (.int 5), .val (.int c5)]) rfl ?_
    show Steps p.tables e below (T58.setTop (mkF m 38 #[.val (.ref a0), .val (.int 6), .val (.ref a2), .val (.int 6), .val (.int 25), .val (.int 5), .val (.int c5)] [])) _
    refine XS.iinc X58.here hx rfl (hb hby d7_38) rfl (l' := #[.val (.ref a0), .val (.int 6), .val (.ref a2), .val (.int 6), .val (.int 25), .val (.int 6), .val (.int c5)]) rfl ?_
    show Steps p.tables e below (T58.setTop (mkF m 41 #[.val (.ref a0), .val (.int 6), .val (.ref a2), .val (.int 6), .val (.int 25), .val (.int 6), .val (.int c5)] [])) _
    refine XS.goto X58.here hx rfl (pc0 := 41) (pc' := 3) rfl (hb hby d7_41) (by decide) (by decide) ?_
    refine XS.iload X58.here hx rfl (hb hby d7_3) rfl ?_
    refine XS.iload X58.here hx rfl (hb hby d7_5) rfl ?_
    show Steps p.tables e below (T58.setTop (mkF m 7 #[.val (.ref a0), .val (.int 6), .val (.ref a2), .val (.int 6), .val (.int 25), .val (.int 6), .val (.int c5)] [(.int 25), (.int 6)])) _
    refine XS.icmpNo X58.here hx rfl (hb hby d7_7) rfl (tlt (by decide : (6 : Int32) < (25 : Int32))).2.1 ?_
    show Steps p.tables e below (T58.setTop (mkF m 10 #[.val (.ref a0), .val (.int 6), .val (.ref a2), .val (.int 6), .val (.int 25), .val (.int 6), .val (.int c5)] [])) _
    refine XS.aloadN X58.here hx rfl (hb hby d7_10) rfl rfl ?_
    refine XS.iloadN X58.here hx rfl (hb hby d7_11) rfl ?_
    show Steps p.tables e below (T58.setTop (mkF m 12 #[.val (.ref a0), .val (.int 6), .val (.ref a2), .val (.int 6), .val (.int 25), .val (.int 6), .val (.int c5)] [(.int 6), (.ref a0)])) _
    refine X58.caload hx (j := (6 : Int32)) (v := (.int c6)) (by rw [e58]; exact Ar61.1) (State.isArrayOf_alike hZ.alike Ar61.2.1) Ar61.2.2 hin61 hat61 (g := (mkF m 12 #[.val (.ref a0), .val (.int 6), .val (.ref a2), .val (.int 6), .val (.int 25), .val (.int 6), .val (.int c5)] [(.int 6), (.ref a0)])) rfl rfl (hb hby d7_12) _ ?_
    refine XS.istore X58.here hx rfl (hb hby d7_13) rfl (l' := #[.val (.ref a0), .val (.int 6), .val (.ref a2), .val (.int 6), .val (.int 25), .val (.int 6), .val (.int c6)]) rfl ?_
    show Steps p.tables e below (T58.setTop (mkF m 15 #[.val (.ref a0), .val (.int 6), .val (.ref a2), .val (.int 6), .val (.int 25), .val (.int 6), .val (.int c6)] [])) _
    refine XS.iload X58.here hx rfl (hb hby d7_15) rfl ?_
    refine XS.sipush X58.here hx rfl (hb hby d7_17) ?_
    show Steps p.tables e below (T58.setTop (mkF m 20 #[.val (.ref a0), .val (.int 6), .val (.ref a2), .val (.int 6), .val (.int 25), .val (.int 6), .val (.int c6)] [(.int 255), (.int c6)])) _
    refine XS.icmpYes X58.here hx rfl (pc0 := 20) (pc' := 26) rfl (hb hby d7_20) rfl (flt hc_6).2.2.2 (by decide) (by decide) ?_
    refine XS.aloadN X58.here hx rfl (hb hby d7_26) rfl rfl ?_
    show Steps p.tables e below (T58.setTop (mkF m 27 #[.val (.ref a0), .val (.int 6), .val (.ref a2), .val (.int 6), .val (.int 25), .val (.int 6), .val (.int c6)] [(.ref a2)])) _
    refine XS.iloadN X58.here hx rfl (hb hby d7_27) rfl ?_
    refine XS.iload X58.here hx rfl (hb hby d7_28) rfl ?_
    show Steps p.tables e below (T58.setTop (mkF m 30 #[.val (.ref a0), .val (.int 6), .val (.ref a2), .val (.int 6), .val (.int 25), .val (.int 6), .val (.int c6)] [(.int c6), (.int 6), (.ref a2)])) _
    refine XS.i2b X58.here hx rfl (hb hby d7_30) rfl ?_
    show Steps p.tables e below (T58.setTop (mkF m 31 #[.val (.ref a0), .val (.int 6), .val (.ref a2), .val (.int 6), .val (.int 25), .val (.int 6), .val (.int c6)] [(.int (c6.toInt8.toInt32)), (.int 6), (.ref a2)])) _
    refine st63 _ ?_
    show Steps p.tables e below (T63.setTop (mkF m 32 #[.val (.ref a0), .val (.int 6), .val (.ref a2), .val (.int 6), .val (.int 25), .val (.int 6), .val (.int c6)] [])) _
    refine XS.iinc X63.here hx rfl (hb hby d7_32) rfl (l' := #[.val (.ref a0), .val (.int 7), .val (.ref a2), .val (.int 6), .val (.int 25), .val (.int 6), .val (.int c6)]) rfl ?_
    show Steps p.tables e below (T63.setTop (mkF m 35 #[.val (.ref a0), .val (.int 7), .val (.ref a2), .val (.int 6), .val (.int 25), .val (.int 6), .val (.int c6)] [])) _
    refine XS.iinc X63.here hx rfl (hb hby d7_35) rfl (l' := #[.val (.ref a0), .val (.int 7), .val (.ref a2), .val (.int 7), .val (.int 25), .val (.int 6), .val (.int c6)]) rfl ?_
    show Steps p.tables e below (T63.setTop (mkF m 38 #[.val (.ref a0), .val (.int 7), .val (.ref a2), .val (.int 7), .val (.int 25), .val (.int 6), .val (.int c6)] [])) _
    refine XS.iinc X63.here hx rfl (hb hby d7_38) rfl (l' := #[.val (.ref a0), .val (.int 7), .val (.ref a2), .val (.int 7), .val (.int 25), .val (.int 7), .val (.int c6)]) rfl ?_
    refine XS.goto X63.here hx rfl (pc0 := 41) (pc' := 3) rfl (hb hby d7_41) (by decide) (by decide) ?_
    show Steps p.tables e below (T63.setTop (mkF m 3 #[.val (.ref a0), .val (.int 7), .val (.ref a2), .val (.int 7), .val (.int 25), .val (.int 7), .val (.int c6)] [])) _
    refine XS.iload X63.here hx rfl (hb hby d7_3) rfl ?_
    refine XS.iload X63.here hx rfl (hb hby d7_5) rfl ?_
    show Steps p.tables e below (T63.setTop (mkF m 7 #[.val (.ref a0), .val (.int 7), .val (.ref a2), .val (.int 7), .val (.int 25), .val (.int 7), .val (.int c6)] [(.int 25), (.int 7)])) _
    refine XS.icmpNo X63.here hx rfl (hb hby d7_7) rfl (tlt (by decide : (7 : Int32) < (25 : Int32))).2.1 ?_
    refine XS.aloadN X63.here hx rfl (hb hby d7_10) rfl rfl ?_
    show Steps p.tables e below (T63.setTop (mkF m 11 #[.val (.ref a0), .val (.int 7), .val (.ref a2), .val (.int 7), .val (.int 25), .val (.int 7), .val (.int c6)] [(.ref a0)])) _
    refine XS.iloadN X63.here hx rfl (hb hby d7_11) rfl ?_
    show Steps p.tables e below (T63.setTop (mkF m 12 #[.val (.ref a0), .val (.int 7), .val (.ref a2), .val (.int 7), .val (.int 25), .val (.int 7), .val (.int c6)] [(.int 7), (.ref a0)])) _
    refine X63.caload hx (j := (7 : Int32)) (v := (.int c7)) (by rw [e63]; exact Ar66.1) (State.isArrayOf_alike hZ.alike Ar66.2.1) Ar66.2.2 hin66 hat66 (g := (mkF m 12 #[.val (.ref a0), .val (.int 7), .val (.ref a2), .val (.int 7), .val (.int 25), .val (.int 7), .val (.int c6)] [(.int 7), (.ref a0)])) rfl rfl (hb hby d7_12) _ ?_
    refine XS.istore X63.here hx rfl (hb hby d7_13) rfl (l' := #[.val (.ref a0), .val (.int 7), .val (.ref a2), .val (.int 7), .val (.int 25), .val (.int 7), .val (.int c7)]) rfl ?_
    refine XS.iload X63.here hx rfl (hb hby d7_15) rfl ?_
    show Steps p.tables e below (T63.setTop (mkF m 17 #[.val (.ref a0), .val (.int 7), .val (.ref a2), .val (.int 7), .val (.int 25), .val (.int 7), .val (.int c7)] [(.int c7)])) _
    refine XS.sipush X63.here hx rfl (hb hby d7_17) ?_
    show Steps p.tables e below (T63.setTop (mkF m 20 #[.val (.ref a0), .val (.int 7), .val (.ref a2), .val (.int 7), .val (.int 25), .val (.int 7), .val (.int c7)] [(.int 255), (.int c7)])) _
    refine XS.icmpYes X63.here hx rfl (pc0 := 20) (pc' := 26) rfl (hb hby d7_20) rfl (flt hc_7).2.2.2 (by decide) (by decide) ?_
    refine XS.aloadN X63.here hx rfl (hb hby d7_26) rfl rfl ?_
    refine XS.iloadN X63.here hx rfl (hb hby d7_27) rfl ?_
    show Steps p.tables e below (T63.setTop (mkF m 28 #[.val (.ref a0), .val (.int 7), .val (.ref a2), .val (.int 7), .val (.int 25), .val (.int 7), .val (.int c7)] [(.int 7), (.ref a2)])) _
    refine XS.iload X63.here hx rfl (hb hby d7_28) rfl ?_
    show Steps p.tables e below (T63.setTop (mkF m 30 #[.val (.ref a0), .val (.int 7), .val (.ref a2), .val (.int 7), .val (.int 25), .val (.int 7), .val (.int c7)] [(.int c7), (.int 7), (.ref a2)])) _
    refine XS.i2b X63.here hx rfl (hb hby d7_30) rfl ?_
    show Steps p.tables e below (T63.setTop (mkF m 31 #[.val (.ref a0), .val (.int 7), .val (.ref a2), .val (.int 7), .val (.int 25), .val (.int 7), .val (.int c7)] [(.int (c7.toInt8.toInt32)), (.int 7), (.ref a2)])) _
    refine st68 _ ?_
    show Steps p.tables e below (T68.setTop (mkF m 32 #[.val (.ref a0), .val (.int 7), .val (.ref a2), .val (.int 7), .val (.int 25), .val (.int 7), .val (.int c7)] [])) _
    refine XS.iinc X68.here hx rfl (hb hby d7_32) rfl (l' := #[.val (.ref a0), .val (.int 8), .val (.ref a2), .val (.int 7), .val (.int 25), .val (.int 7), .val (.int c7)]) rfl ?_
    show Steps p.tables e below (T68.setTop (mkF m 35 #[.val (.ref a0), .val (.int 8), .val (.ref a2), .val (.int 7), .val (.int 25), .val (.int 7), .val (.int c7)] [])) _
    refine XS.iinc X68.here hx rfl (hb hby d7_35) rfl (l' := #[.val (.ref a0), .val (.int 8), .val (.ref a2), .val (.int 8), .val (.int 25), .val (.int 7), .val (.int c7)]) rfl ?_
    show Steps p.tables e below (T68.setTop (mkF m 38 #[.val (.ref a0), .val (.int 8), .val (.ref a2), .val (.int 8), .val (.int 25), .val (.int 7), .val (.int c7)] [])) _
    refine XS.iinc X68.here hx rfl (hb hby d7_38) rfl (l' := #[.val (.ref a0), .val (.int 8), .val (.ref a2), .val (.int 8), .val (.int 25), .val (.int 8), .val (.int c7)]) rfl ?_
    refine XS.goto X68.here hx rfl (pc0 := 41) (pc' := 3) rfl (hb hby d7_41) (by decide) (by decide) ?_
    refine XS.iload X68.here hx rfl (hb hby d7_3) rfl ?_
    show Steps p.tables e below (T68.setTop (mkF m 5 #[.val (.ref a0), .val (.int 8), .val (.ref a2), .val (.int 8), .val (.int 25), .val (.int 8), .val (.int c7)] [(.int 8)])) _
    refine XS.iload X68.here hx rfl (hb hby d7_5) rfl ?_
    show Steps p.tables e below (T68.setTop (mkF m 7 #[.val (.ref a0), .val (.int 8), .val (.ref a2), .val (.int 8), .val (.int 25), .val (.int 8), .val (.int c7)] [(.int 25), (.int 8)])) _
    refine XS.icmpNo X68.here hx rfl (hb hby d7_7) rfl (tlt (by decide : (8 : Int32) < (25 : Int32))).2.1 ?_
    refine XS.aloadN X68.here hx rfl (hb hby d7_10) rfl rfl ?_
    refine XS.iloadN X68.here hx rfl (hb hby d7_11) rfl ?_
    show Steps p.tables e below (T68.setTop (mkF m 12 #[.val (.ref a0), .val (.int 8), .val (.ref a2), .val (.int 8), .val (.int 25), .val (.int 8), .val (.int c7)] [(.int 8), (.ref a0)])) _
    refine X68.caload hx (j := (8 : Int32)) (v := (.int c8)) (by rw [e68]; exact Ar71.1) (State.isArrayOf_alike hZ.alike Ar71.2.1) Ar71.2.2 hin71 hat71 (g := (mkF m 12 #[.val (.ref a0), .val (.int 8), .val (.ref a2), .val (.int 8), .val (.int 25), .val (.int 8), .val (.int c7)] [(.int 8), (.ref a0)])) rfl rfl (hb hby d7_12) _ ?_
    refine XS.istore X68.here hx rfl (hb hby d7_13) rfl (l' := #[.val (.ref a0), .val (.int 8), .val (.ref a2), .val (.int 8), .val (.int 25), .val (.int 8), .val (.int c8)]) rfl ?_
    refine XS.iload X68.here hx rfl (hb hby d7_15) rfl ?_
    refine XS.sipush X68.here hx rfl (hb hby d7_17) ?_
    show Steps p.tables e below (T68.setTop (mkF m 20 #[.val (.ref a0), .val (.int 8), .val (.ref a2), .val (.int 8), .val (.int 25), .val (.int 8), .val (.int c8)] [(.int 255), (.int c8)])) _
    refine XS.icmpYes X68.here hx rfl (pc0 := 20) (pc' := 26) rfl (hb hby d7_20) rfl (flt hc_8).2.2.2 (by decide) (by decide) ?_
    refine XS.aloadN X68.here hx rfl (hb hby d7_26) rfl rfl ?_
    refine XS.iloadN X68.here hx rfl (hb hby d7_27) rfl ?_
    refine XS.iload X68.here hx rfl (hb hby d7_28) rfl ?_
    show Steps p.tables e below (T68.setTop (mkF m 30 #[.val (.ref a0), .val (.int 8), .val (.ref a2), .val (.int 8), .val (.int 25), .val (.int 8), .val (.int c8)] [(.int c8), (.int 8), (.ref a2)])) _
    refine XS.i2b X68.here hx rfl (hb hby d7_30) rfl ?_
    show Steps p.tables e below (T68.setTop (mkF m 31 #[.val (.ref a0), .val (.int 8), .val (.ref a2), .val (.int 8), .val (.int 25), .val (.int 8), .val (.int c8)] [(.int (c8.toInt8.toInt32)), (.int 8), (.ref a2)])) _
    refine st73 _ ?_
    show Steps p.tables e below (T73.setTop (mkF m 32 #[.val (.ref a0), .val (.int 8), .val (.ref a2), .val (.int 8), .val (.int 25), .val (.int 8), .val (.int c8)] [])) _
    refine XS.iinc X73.here hx rfl (hb hby d7_32) rfl (l' := #[.val (.ref a0), .val (.int 9), .val (.ref a2), .val (.int 8), .val (.int 25), .val (.int 8), .val (.int c8)]) rfl ?_
    show Steps p.tables e below (T73.setTop (mkF m 35 #[.val (.ref a0), .val (.int 9), .val (.ref a2), .val (.int 8), .val (.int 25), .val (.int 8), .val (.int c8)] [])) _
    refine XS.iinc X73.here hx rfl (hb hby d7_35) rfl (l' := #[.val (.ref a0), .val (.int 9), .val (.ref a2), .val (.int 9), .val (.int 25), .val (.int 8), .val (.int c8)]) rfl ?_
    show Steps p.tables e below (T73.setTop (mkF m 38 #[.val (.ref a0), .val (.int 9), .val (.ref a2), .val (.int 9), .val (.int 25), .val (.int 8), .val (.int c8)] [])) _
    refine XS.iinc X73.here hx rfl (hb hby d7_38) rfl (l' := #[.val (.ref a0), .val (.int 9), .val (.ref a2), .val (.int 9), .val (.int 25), .val (.int 9), .val (.int c8)]) rfl ?_
    refine XS.goto X73.here hx rfl (pc0 := 41) (pc' := 3) rfl (hb hby d7_41) (by decide) (by decide) ?_
    refine XS.iload X73.here hx rfl (hb hby d7_3) rfl ?_
    refine XS.iload X73.here hx rfl (hb hby d7_5) rfl ?_
    show Steps p.tables e below (T73.setTop (mkF m 7 #[.val (.ref a0), .val (.int 9), .val (.ref a2), .val (.int 9), .val (.int 25), .val (.int 9), .val (.int c8)] [(.int 25), (.int 9)])) _
    refine XS.icmpNo X73.here hx rfl (hb hby d7_7) rfl (tlt (by decide : (9 : Int32) < (25 : Int32))).2.1 ?_
    refine XS.aloadN X73.here hx rfl (hb hby d7_10) rfl rfl ?_
    refine XS.iloadN X73.here hx rfl (hb hby d7_11) rfl ?_
    show Steps p.tables e below (T73.setTop (mkF m 12 #[.val (.ref a0), .val (.int 9), .val (.ref a2), .val (.int 9), .val (.int 25), .val (.int 9), .val (.int c8)] [(.int 9), (.ref a0)])) _
    refine X73.caload hx (j := (9 : Int32)) (v := (.int c9)) (by rw [e73]; exact Ar76.1) (State.isArrayOf_alike hZ.alike Ar76.2.1) Ar76.2.2 hin76 hat76 (g := (mkF m 12 #[.val (.ref a0), .val (.int 9), .val (.ref a2), .val (.int 9), .val (.int 25), .val (.int 9), .val (.int c8)] [(.int 9), (.ref a0)])) rfl rfl (hb hby d7_12) _ ?_
    show Steps p.tables e below (T73.setTop (mkF m 13 #[.val (.ref a0), .val (.int 9), .val (.ref a2), .val (.int 9), .val (.int 25), .val (.int 9), .val (.int c8)] [(.int c9)])) _
    refine XS.istore X73.here hx rfl (hb hby d7_13) rfl (l' := #[.val (.ref a0), .val (.int 9), .val (.ref a2), .val (.int 9), .val (.int 25), .val (.int 9), .val (.int c9)]) rfl ?_
    refine XS.iload X73.here hx rfl (hb hby d7_15) rfl ?_
    refine XS.sipush X73.here hx rfl (hb hby d7_17) ?_
    show Steps p.tables e below (T73.setTop (mkF m 20 #[.val (.ref a0), .val (.int 9), .val (.ref a2), .val (.int 9), .val (.int 25), .val (.int 9), .val (.int c9)] [(.int 255), (.int c9)])) _
    refine XS.icmpYes X73.here hx rfl (pc0 := 20) (pc' := 26) rfl (hb hby d7_20) rfl (flt hc_9).2.2.2 (by decide) (by decide) ?_
    show Steps p.tables e below (T73.setTop (mkF m 26 #[.val (.ref a0), .val (.int 9), .val (.ref a2), .val (.int 9), .val (.int 25), .val (.int 9), .val (.int c9)] [])) _
    refine XS.aloadN X73.here hx rfl (hb hby d7_26) rfl rfl ?_
    refine XS.iloadN X73.here hx rfl (hb hby d7_27) rfl ?_
    refine XS.iload X73.here hx rfl (hb hby d7_28) rfl ?_
    show Steps p.tables e below (T73.setTop (mkF m 30 #[.val (.ref a0), .val (.int 9), .val (.ref a2), .val (.int 9), .val (.int 25), .val (.int 9), .val (.int c9)] [(.int c9), (.int 9), (.ref a2)])) _
    refine XS.i2b X73.here hx rfl (hb hby d7_30) rfl ?_
    show Steps p.tables e below (T73.setTop (mkF m 31 #[.val (.ref a0), .val (.int 9), .val (.ref a2), .val (.int 9), .val (.int 25), .val (.int 9), .val (.int c9)] [(.int (c9.toInt8.toInt32)), (.int 9), (.ref a2)])) _
    refine st78 _ ?_
    show Steps p.tables e below (T78.setTop (mkF m 32 #[.val (.ref a0), .val (.int 9), .val (.ref a2), .val (.int 9), .val (.int 25), .val (.int 9), .val (.int c9)] [])) _
    refine XS.iinc X78.here hx rfl (hb hby d7_32) rfl (l' := #[.val (.ref a0), .val (.int 10), .val (.ref a2), .val (.int 9), .val (.int 25), .val (.int 9), .val (.int c9)]) rfl ?_
    show Steps p.tables e below (T78.setTop (mkF m 35 #[.val (.ref a0), .val (.int 10), .val (.ref a2), .val (.int 9), .val (.int 25), .val (.int 9), .val (.int c9)] [])) _
    refine XS.iinc X78.here hx rfl (hb hby d7_35) rfl (l' := #[.val (.ref a0), .val (.int 10), .val (.ref a2), .val (.int 10), .val (.int 25), .val (.int 9), .val (.int c9)]) rfl ?_
    show Steps p.tables e below (T78.setTop (mkF m 38 #[.val (.ref a0), .val (.int 10), .val (.ref a2), .val (.int 10), .val (.int 25), .val (.int 9), .val (.int c9)] [])) _
    refine XS.iinc X78.here hx rfl (hb hby d7_38) rfl (l' := #[.val (.ref a0), .val (.int 10), .val (.ref a2), .val (.int 10), .val (.int 25), .val (.int 10), .val (.int c9)]) rfl ?_
    show Steps p.tables e below (T78.setTop (mkF m 41 #[.val (.ref a0), .val (.int 10), .val (.ref a2), .val (.int 10), .val (.int 25), .val (.int 10), .val (.int c9)] [])) _
    refine XS.goto X78.here hx rfl (pc0 := 41) (pc' := 3) rfl (hb hby d7_41) (by decide) (by decide) ?_
    refine XS.iload X78.here hx rfl (hb hby d7_3) rfl ?_
    refine XS.iload X78.here hx rfl (hb hby d7_5) rfl ?_
    show Steps p.tables e below (T78.setTop (mkF m 7 #[.val (.ref a0), .val (.int 10), .val (.ref a2), .val (.int 10), .val (.int 25), .val (.int 10), .val (.int c9)] [(.int 25), (.int 10)])) _
    refine XS.icmpNo X78.here hx rfl (hb hby d7_7) rfl (tlt (by decide : (10 : Int32) < (25 : Int32))).2.1 ?_
    show Steps p.tables e below (T78.setTop (mkF m 10 #[.val (.ref a0), .val (.int 10), .val (.ref a2), .val (.int 10), .val (.int 25), .val (.int 10), .val (.int c9)] [])) _
    refine XS.aloadN X78.here hx rfl (hb hby d7_10) rfl rfl ?_
    refine XS.iloadN X78.here hx rfl (hb hby d7_11) rfl ?_
    show Steps p.tables e below (T78.setTop (mkF m 12 #[.val (.ref a0), .val (.int 10), .val (.ref a2), .val (.int 10), .val (.int 25), .val (.int 10), .val (.int c9)] [(.int 10), (.ref a0)])) _
    refine X78.caload hx (j := (10 : Int32)) (v := (.int c10)) (by rw [e78]; exact Ar81.1) (State.isArrayOf_alike hZ.alike Ar81.2.1) Ar81.2.2 hin81 hat81 (g := (mkF m 12 #[.val (.ref a0), .val (.int 10), .val (.ref a2), .val (.int 10), .val (.int 25), .val (.int 10), .val (.int c9)] [(.int 10), (.ref a0)])) rfl rfl (hb hby d7_12) _ ?_
    refine XS.istore X78.here hx rfl (hb hby d7_13) rfl (l' := #[.val (.ref a0), .val (.int 10), .val (.ref a2), .val (.int 10), .val (.int 25), .val (.int 10), .val (.int c10)]) rfl ?_
    show Steps p.tables e below (T78.setTop (mkF m 15 #[.val (.ref a0), .val (.int 10), .val (.ref a2), .val (.int 10), .val (.int 25), .val (.int 10), .val (.int c10)] [])) _
    refine XS.iload X78.here hx rfl (hb hby d7_15) rfl ?_
    refine XS.sipush X78.here hx rfl (hb hby d7_17) ?_
    show Steps p.tables e below (T78.setTop (mkF m 20 #[.val (.ref a0), .val (.int 10), .val (.ref a2), .val (.int 10), .val (.int 25), .val (.int 10), .val (.int c10)] [(.int 255), (.int c10)])) _
    refine XS.icmpYes X78.here hx rfl (pc0 := 20) (pc' := 26) rfl (hb hby d7_20) rfl (flt hc_10).2.2.2 (by decide) (by decide) ?_
    refine XS.aloadN X78.here hx rfl (hb hby d7_26) rfl rfl ?_
    show Steps p.tables e below (T78.setTop (mkF m 27 #[.val (.ref a0), .val (.int 10), .val (.ref a2), .val (.int 10), .val (.int 25), .val (.int 10), .val (.int c10)] [(.ref a2)])) _
    refine XS.iloadN X78.here hx rfl (hb hby d7_27) rfl ?_
    refine XS.iload X78.here hx rfl (hb hby d7_28) rfl ?_
    show Steps p.tables e below (T78.setTop (mkF m 30 #[.val (.ref a0), .val (.int 10), .val (.ref a2), .val (.int 10), .val (.int 25), .val (.int 10), .val (.int c10)] [(.int c10), (.int 10), (.ref a2)])) _
    refine XS.i2b X78.here hx rfl (hb hby d7_30) rfl ?_
    show Steps p.tables e below (T78.setTop (mkF m 31 #[.val (.ref a0), .val (.int 10), .val (.ref a2), .val (.int 10), .val (.int 25), .val (.int 10), .val (.int c10)] [(.int (c10.toInt8.toInt32)), (.int 10), (.ref a2)])) _
    refine st83 _ ?_
    show Steps p.tables e below (T83.setTop (mkF m 32 #[.val (.ref a0), .val (.int 10), .val (.ref a2), .val (.int 10), .val (.int 25), .val (.int 10), .val (.int c10)] [])) _
    refine XS.iinc X83.here hx rfl (hb hby d7_32) rfl (l' := #[.val (.ref a0), .val (.int 11), .val (.ref a2), .val (.int 10), .val (.int 25), .val (.int 10), .val (.int c10)]) rfl ?_
    show Steps p.tables e below (T83.setTop (mkF m 35 #[.val (.ref a0), .val (.int 11), .val (.ref a2), .val (.int 10), .val (.int 25), .val (.int 10), .val (.int c10)] [])) _
    refine XS.iinc X83.here hx rfl (hb hby d7_35) rfl (l' := #[.val (.ref a0), .val (.int 11), .val (.ref a2), .val (.int 11), .val (.int 25), .val (.int 10), .val (.int c10)]) rfl ?_
    show Steps p.tables e below (T83.setTop (mkF m 38 #[.val (.ref a0), .val (.int 11), .val (.ref a2), .val (.int 11), .val (.int 25), .val (.int 10), .val (.int c10)] [])) _
    refine XS.iinc X83.here hx rfl (hb hby d7_38) rfl (l' := #[.val (.ref a0), .val (.int 11), .val (.ref a2), .val (.int 11), .val (.int 25), .val (.int 11), .val (.int c10)]) rfl ?_
    refine XS.goto X83.here hx rfl (pc0 := 41) (pc' := 3) rfl (hb hby d7_41) (by decide) (by decide) ?_
    show Steps p.tables e below (T83.setTop (mkF m 3 #[.val (.ref a0), .val (.int 11), .val (.ref a2), .val (.int 11), .val (.int 25), .val (.int 11), .val (.int c10)] [])) _
    refine XS.iload X83.here hx rfl (hb hby d7_3) rfl ?_
    refine XS.iload X83.here hx rfl (hb hby d7_5) rfl ?_
    show Steps p.tables e below (T83.setTop (mkF m 7 #[.val (.ref a0), .val (.int 11), .val (.ref a2), .val (.int 11), .val (.int 25), .val (.int 11), .val (.int c10)] [(.int 25), (.int 11)])) _
    refine XS.icmpNo X83.here hx rfl (hb hby d7_7) rfl (tlt (by decide : (11 : Int32) < (25 : Int32))).2.1 ?_
    refine XS.aloadN X83.here hx rfl (hb hby d7_10) rfl rfl ?_
    show Steps p.tables e below (T83.setTop (mkF m 11 #[.val (.ref a0), .val (.int 11), .val (.ref a2), .val (.int 11), .val (.int 25), .val (.int 11), .val (.int c10)] [(.ref a0)])) _
    refine XS.iloadN X83.here hx rfl (hb hby d7_11) rfl ?_
    show Steps p.tables e below (T83.setTop (mkF m 12 #[.val (.ref a0), .val (.int 11), .val (.ref a2), .val (.int 11), .val (.int 25), .val (.int 11), .val (.int c10)] [(.int 11), (.ref a0)])) _
    refine X83.caload hx (j := (11 : Int32)) (v := (.int c11)) (by rw [e83]; exact Ar86.1) (State.isArrayOf_alike hZ.alike Ar86.2.1) Ar86.2.2 hin86 hat86 (g := (mkF m 12 #[.val (.ref a0), .val (.int 11), .val (.ref a2), .val (.int 11), .val (.int 25), .val (.int 11), .val (.int c10)] [(.int 11), (.ref a0)])) rfl rfl (hb hby d7_12) _ ?_
    refine XS.istore X83.here hx rfl (hb hby d7_13) rfl (l' := #[.val (.ref a0), .val (.int 11), .val (.ref a2), .val (.int 11), .val (.int 25), .val (.int 11), .val (.int c11)]) rfl ?_
    refine XS.iload X83.here hx rfl (hb hby d7_15) rfl ?_
    show Steps p.tables e below (T83.setTop (mkF m 17 #[.val (.ref a0), .val (.int 11), .val (.ref a2), .val (.int 11), .val (.int 25), .val (.int 11), .val (.int c11)] [(.int c11)])) _
    refine XS.sipush X83.here hx rfl (hb hby d7_17) ?_
    show Steps p.tables e below (T83.setTop (mkF m 20 #[.val (.ref a0), .val (.int 11), .val (.ref a2), .val (.int 11), .val (.int 25), .val (.int 11), .val (.int c11)] [(.int 255), (.int c11)])) _
    refine XS.icmpYes X83.here hx rfl (pc0 := 20) (pc' := 26) rfl (hb hby d7_20) rfl (flt hc_11).2.2.2 (by decide) (by decide) ?_
    refine XS.aloadN X83.here hx rfl (hb hby d7_26) rfl rfl ?_
    refine XS.iloadN X83.here hx rfl (hb hby d7_27) rfl ?_
    show Steps p.tables e below (T83.setTop (mkF m 28 #[.val (.ref a0), .val (.int 11), .val (.ref a2), .val (.int 11), .val (.int 25), .val (.int 11), .val (.int c11)] [(.int 11), (.ref a2)])) _
    refine XS.iload X83.here hx rfl (hb hby d7_28) rfl ?_
    show Steps p.tables e below (T83.setTop (mkF m 30 #[.val (.ref a0), .val (.int 11), .val (.ref a2), .val (.int 11), .val (.int 25), .val (.int 11), .val (.int c11)] [(.int c11), (.int 11), (.ref a2)])) _
    refine XS.i2b X83.here hx rfl (hb hby d7_30) rfl ?_
    show Steps p.tables e below (T83.setTop (mkF m 31 #[.val (.ref a0), .val (.int 11), .val (.ref a2), .val (.int 11), .val (.int 25), .val (.int 11), .val (.int c11)] [(.int (c11.toInt8.toInt32)), (.int 11), (.ref a2)])) _
    refine st88 _ ?_
    show Steps p.tables e below (T88.setTop (mkF m 32 #[.val (.ref a0), .val (.int 11), .val (.ref a2), .val (.int 11), .val (.int 25), .val (.int 11), .val (.int c11)] [])) _
    refine XS.iinc X88.here hx rfl (hb hby d7_32) rfl (l' := #[.val (.ref a0), .val (.int 12), .val (.ref a2), .val (.int 11), .val (.int 25), .val (.int 11), .val (.int c11)]) rfl ?_
    show Steps p.tables e below (T88.setTop (mkF m 35 #[.val (.ref a0), .val (.int 12), .val (.ref a2), .val (.int 11), .val (.int 25), .val (.int 11), .val (.int c11)] [])) _
    refine XS.iinc X88.here hx rfl (hb hby d7_35) rfl (l' := #[.val (.ref a0), .val (.int 12), .val (.ref a2), .val (.int 12), .val (.int 25), .val (.int 11), .val (.int c11)]) rfl ?_
    show Steps p.tables e below (T88.setTop (mkF m 38 #[.val (.ref a0), .val (.int 12), .val (.ref a2), .val (.int 12), .val (.int 25), .val (.int 11), .val (.int c11)] [])) _
    refine XS.iinc X88.here hx rfl (hb hby d7_38) rfl (l' := #[.val (.ref a0), .val (.int 12), .val (.ref a2), .val (.int 12), .val (.int 25), .val (.int 12), .val (.int c11)]) rfl ?_
    refine XS.goto X88.here hx rfl (pc0 := 41) (pc' := 3) rfl (hb hby d7_41) (by decide) (by decide) ?_
    refine XS.iload X88.here hx rfl (hb hby d7_3) rfl ?_
    show Steps p.tables e below (T88.setTop (mkF m 5 #[.val (.ref a0), .val (.int 12), .val (.ref a2), .val (.int 12), .val (.int 25), .val (.int 12), .val (.int c11)] [(.int 12)])) _
    refine XS.iload X88.here hx rfl (hb hby d7_5) rfl ?_
    show Steps p.tables e below (T88.setTop (mkF m 7 #[.val (.ref a0), .val (.int 12), .val (.ref a2), .val (.int 12), .val (.int 25), .val (.int 12), .val (.int c11)] [(.int 25), (.int 12)])) _
    refine XS.icmpNo X88.here hx rfl (hb hby d7_7) rfl (tlt (by decide : (12 : Int32) < (25 : Int32))).2.1 ?_
    refine XS.aloadN X88.here hx rfl (hb hby d7_10) rfl rfl ?_
    refine XS.iloadN X88.here hx rfl (hb hby d7_11) rfl ?_
    show Steps p.tables e below (T88.setTop (mkF m 12 #[.val (.ref a0), .val (.int 12), .val (.ref a2), .val (.int 12), .val (.int 25), .val (.int 12), .val (.int c11)] [(.int 12), (.ref a0)])) _
    refine X88.caload hx (j := (12 : Int32)) (v := (.int c12)) (by rw [e88]; exact Ar91.1) (State.isArrayOf_alike hZ.alike Ar91.2.1) Ar91.2.2 hin91 hat91 (g := (mkF m 12 #[.val (.ref a0), .val (.int 12), .val (.ref a2), .val (.int 12), .val (.int 25), .val (.int 12), .val (.int c11)] [(.int 12), (.ref a0)])) rfl rfl (hb hby d7_12) _ ?_
    refine XS.istore X88.here hx rfl (hb hby d7_13) rfl (l' := #[.val (.ref a0), .val (.int 12), .val (.ref a2), .val (.int 12), .val (.int 25), .val (.int 12), .val (.int c12)]) rfl ?_
    refine XS.iload X88.here hx rfl (hb hby d7_15) rfl ?_
    refine XS.sipush X88.here hx rfl (hb hby d7_17) ?_
    show Steps p.tables e below (T88.setTop (mkF m 20 #[.val (.ref a0), .val (.int 12), .val (.ref a2), .val (.int 12), .val (.int 25), .val (.int 12), .val (.int c12)] [(.int 255), (.int c12)])) _
    refine XS.icmpYes X88.here hx rfl (pc0 := 20) (pc' := 26) rfl (hb hby d7_20) rfl (flt hc_12).2.2.2 (by decide) (by decide) ?_
    refine XS.aloadN X88.here hx rfl (hb hby d7_26) rfl rfl ?_
    refine XS.iloadN X88.here hx rfl (hb hby d7_27) rfl ?_
    refine XS.iload X88.here hx rfl (hb hby d7_28) rfl ?_
    show Steps p.tables e below (T88.setTop (mkF m 30 #[.val (.ref a0), .val (.int 12), .val (.ref a2), .val (.int 12), .val (.int 25), .val (.int 12), .val (.int c12)] [(.int c12), (.int 12), (.ref a2)])) _
    refine XS.i2b X88.here hx rfl (hb hby d7_30) rfl ?_
    show Steps p.tables e below (T88.setTop (mkF m 31 #[.val (.ref a0), .val (.int 12), .val (.ref a2), .val (.int 12), .val (.int 25), .val (.int 12), .val (.int c12)] [(.int (c12.toInt8.toInt32)), (.int 12), (.ref a2)])) _
    refine st93 _ ?_
    show Steps p.tables e below (T93.setTop (mkF m 32 #[.val (.ref a0), .val (.int 12), .val (.ref a2), .val (.int 12), .val (.int 25), .val (.int 12), .val (.int c12)] [])) _
    refine XS.iinc X93.here hx rfl (hb hby d7_32) rfl (l' := #[.val (.ref a0), .val (.int 13), .val (.ref a2), .val (.int 12), .val (.int 25), .val (.int 12), .val (.int c12)]) rfl ?_
    show Steps p.tables e below (T93.setTop (mkF m 35 #[.val (.ref a0), .val (.int 13), .val (.ref a2), .val (.int 12), .val (.int 25), .val (.int 12), .val (.int c12)] [])) _
    refine XS.iinc X93.here hx rfl (hb hby d7_35) rfl (l' := #[.val (.ref a0), .val (.int 13), .val (.ref a2), .val (.int 13), .val (.int 25), .val (.int 12), .val (.int c12)]) rfl ?_
    show Steps p.tables e below (T93.setTop (mkF m 38 #[.val (.ref a0), .val (.int 13), .val (.ref a2), .val (.int 13), .val (.int 25), .val (.int 12), .val (.int c12)] [])) _
    refine XS.iinc X93.here hx rfl (hb hby d7_38) rfl (l' := #[.val (.ref a0), .val (.int 13), .val (.ref a2), .val (.int 13), .val (.int 25), .val (.int 13), .val (.int c12)]) rfl ?_
    refine XS.goto X93.here hx rfl (pc0 := 41) (pc' := 3) rfl (hb hby d7_41) (by decide) (by decide) ?_
    refine XS.iload X93.here hx rfl (hb hby d7_3) rfl ?_
    refine XS.iload X93.here hx rfl (hb hby d7_5) rfl ?_
    show Steps p.tables e below (T93.setTop (mkF m 7 #[.val (.ref a0), .val (.int 13), .val (.ref a2), .val (.int 13), .val (.int 25), .val (.int 13), .val (.int c12)] [(.int 25), (.int 13)])) _
    refine XS.icmpNo X93.here hx rfl (hb hby d7_7) rfl (tlt (by decide : (13 : Int32) < (25 : Int32))).2.1 ?_
    refine XS.aloadN X93.here hx rfl (hb hby d7_10) rfl rfl ?_
    refine XS.iloadN X93.here hx rfl (hb hby d7_11) rfl ?_
    show Steps p.tables e below (T93.setTop (mkF m 12 #[.val (.ref a0), .val (.int 13), .val (.ref a2), .val (.int 13), .val (.int 25), .val (.int 13), .val (.int c12)] [(.int 13), (.ref a0)])) _
    refine X93.caload hx (j := (13 : Int32)) (v := (.int c13)) (by rw [e93]; exact Ar96.1) (State.isArrayOf_alike hZ.alike Ar96.2.1) Ar96.2.2 hin96 hat96 (g := (mkF m 12 #[.val (.ref a0), .val (.int 13), .val (.ref a2), .val (.int 13), .val (.int 25), .val (.int 13), .val (.int c12)] [(.int 13), (.ref a0)])) rfl rfl (hb hby d7_12) _ ?_
    show Steps p.tables e below (T93.setTop (mkF m 13 #[.val (.ref a0), .val (.int 13), .val (.ref a2), .val (.int 13), .val (.int 25), .val (.int 13), .val (.int c12)] [(.int c13)])) _
    refine XS.istore X93.here hx rfl (hb hby d7_13) rfl (l' := #[.val (.ref a0), .val (.int 13), .val (.ref a2), .val (.int 13), .val (.int 25), .val (.int 13), .val (.int c13)]) rfl ?_
    refine XS.iload X93.here hx rfl (hb hby d7_15) rfl ?_
    refine XS.sipush X93.here hx rfl (hb hby d7_17) ?_
    show Steps p.tables e below (T93.setTop (mkF m 20 #[.val (.ref a0), .val (.int 13), .val (.ref a2), .val (.int 13), .val (.int 25), .val (.int 13), .val (.int c13)] [(.int 255), (.int c13)])) _
    refine XS.icmpYes X93.here hx rfl (pc0 := 20) (pc' := 26) rfl (hb hby d7_20) rfl (flt hc_13).2.2.2 (by decide) (by decide) ?_
    show Steps p.tables e below (T93.setTop (mkF m 26 #[.val (.ref a0), .val (.int 13), .val (.ref a2), .val (.int 13), .val (.int 25), .val (.int 13), .val (.int c13)] [])) _
    refine XS.aloadN X93.here hx rfl (hb hby d7_26) rfl rfl ?_
    refine XS.iloadN X93.here hx rfl (hb hby d7_27) rfl ?_
    refine XS.iload X93.here hx rfl (hb hby d7_28) rfl ?_
    show Steps p.tables e below (T93.setTop (mkF m 30 #[.val (.ref a0), .val (.int 13), .val (.ref a2), .val (.int 13), .val (.int 25), .val (.int 13), .val (.int c13)] [(.int c13), (.int 13), (.ref a2)])) _
    refine XS.i2b X93.here hx rfl (hb hby d7_30) rfl ?_
    show Steps p.tables e below (T93.setTop (mkF m 31 #[.val (.ref a0), .val (.int 13), .val (.ref a2), .val (.int 13), .val (.int 25), .val (.int 13), .val (.int c13)] [(.int (c13.toInt8.toInt32)), (.int 13), (.ref a2)])) _
    refine st98 _ ?_
    show Steps p.tables e below (T98.setTop (mkF m 32 #[.val (.ref a0), .val (.int 13), .val (.ref a2), .val (.int 13), .val (.int 25), .val (.int 13), .val (.int c13)] [])) _
    refine XS.iinc X98.here hx rfl (hb hby d7_32) rfl (l' := #[.val (.ref a0), .val (.int 14), .val (.ref a2), .val (.int 13), .val (.int 25), .val (.int 13), .val (.int c13)]) rfl ?_
    show Steps p.tables e below (T98.setTop (mkF m 35 #[.val (.ref a0), .val (.int 14), .val (.ref a2), .val (.int 13), .val (.int 25), .val (.int 13), .val (.int c13)] [])) _
    refine XS.iinc X98.here hx rfl (hb hby d7_35) rfl (l' := #[.val (.ref a0), .val (.int 14), .val (.ref a2), .val (.int 14), .val (.int 25), .val (.int 13), .val (.int c13)]) rfl ?_
    show Steps p.tables e below (T98.setTop (mkF m 38 #[.val (.ref a0), .val (.int 14), .val (.ref a2), .val (.int 14), .val (.int 25), .val (.int 13), .val (.int c13)] [])) _
    refine XS.iinc X98.here hx rfl (hb hby d7_38) rfl (l' := #[.val (.ref a0), .val (.int 14), .val (.ref a2), .val (.int 14), .val (.int 25), .val (.int 14), .val (.int c13)]) rfl ?_
    show Steps p.tables e below (T98.setTop (mkF m 41 #[.val (.ref a0), .val (.int 14), .val (.ref a2), .val (.int 14), .val (.int 25), .val (.int 14), .val (.int c13)] [])) _
    refine XS.goto X98.here hx rfl (pc0 := 41) (pc' := 3) rfl (hb hby d7_41) (by decide) (by decide) ?_
    refine XS.iload X98.here hx rfl (hb hby d7_3) rfl ?_
    refine XS.iload X98.here hx rfl (hb hby d7_5) rfl ?_
    show Steps p.tables e below (T98.setTop (mkF m 7 #[.val (.ref a0), .val (.int 14), .val (.ref a2), .val (.int 14), .val (.int 25), .val (.int 14), .val (.int c13)] [(.int 25), (.int 14)])) _
    refine XS.icmpNo X98.here hx rfl (hb hby d7_7) rfl (tlt (by decide : (14 : Int32) < (25 : Int32))).2.1 ?_
    show Steps p.tables e below (T98.setTop (mkF m 10 #[.val (.ref a0), .val (.int 14), .val (.ref a2), .val (.int 14), .val (.int 25), .val (.int 14), .val (.int c13)] [])) _
    refine XS.aloadN X98.here hx rfl (hb hby d7_10) rfl rfl ?_
    refine XS.iloadN X98.here hx rfl (hb hby d7_11) rfl ?_
    show Steps p.tables e below (T98.setTop (mkF m 12 #[.val (.ref a0), .val (.int 14), .val (.ref a2), .val (.int 14), .val (.int 25), .val (.int 14), .val (.int c13)] [(.int 14), (.ref a0)])) _
    refine X98.caload hx (j := (14 : Int32)) (v := (.int c14)) (by rw [e98]; exact Ar101.1) (State.isArrayOf_alike hZ.alike Ar101.2.1) Ar101.2.2 hin101 hat101 (g := (mkF m 12 #[.val (.ref a0), .val (.int 14), .val (.ref a2), .val (.int 14), .val (.int 25), .val (.int 14), .val (.int c13)] [(.int 14), (.ref a0)])) rfl rfl (hb hby d7_12) _ ?_
    refine XS.istore X98.here hx rfl (hb hby d7_13) rfl (l' := #[.val (.ref a0), .val (.int 14), .val (.ref a2), .val (.int 14), .val (.int 25), .val (.int 14), .val (.int c14)]) rfl ?_
    show Steps p.tables e below (T98.setTop (mkF m 15 #[.val (.ref a0), .val (.int 14), .val (.ref a2), .val (.int 14), .val (.int 25), .val (.int 14), .val (.int c14)] [])) _
    refine XS.iload X98.here hx rfl (hb hby d7_15) rfl ?_
    refine XS.sipush X98.here hx rfl (hb hby d7_17) ?_
    show Steps p.tables e below (T98.setTop (mkF m 20 #[.val (.ref a0), .val (.int 14), .val (.ref a2), .val (.int 14), .val (.int 25), .val (.int 14), .val (.int c14)] [(.int 255), (.int c14)])) _
    refine XS.icmpYes X98.here hx rfl (pc0 := 20) (pc' := 26) rfl (hb hby d7_20) rfl (flt hc_14).2.2.2 (by decide) (by decide) ?_
    refine XS.aloadN X98.here hx rfl (hb hby d7_26) rfl rfl ?_
    show Steps p.tables e below (T98.setTop (mkF m 27 #[.val (.ref a0), .val (.int 14), .val (.ref a2), .val (.int 14), .val (.int 25), .val (.int 14), .val (.int c14)] [(.ref a2)])) _
    refine XS.iloadN X98.here hx rfl (hb hby d7_27) rfl ?_
    refine XS.iload X98.here hx rfl (hb hby d7_28) rfl ?_
    show Steps p.tables e below (T98.setTop (mkF m 30 #[.val (.ref a0), .val (.int 14), .val (.ref a2), .val (.int 14), .val (.int 25), .val (.int 14), .val (.int c14)] [(.int c14), (.int 14), (.ref a2)])) _
    refine XS.i2b X98.here hx rfl (hb hby d7_30) rfl ?_
    show Steps p.tables e below (T98.setTop (mkF m 31 #[.val (.ref a0), .val (.int 14), .val (.ref a2), .val (.int 14), .val (.int 25), .val (.int 14), .val (.int c14)] [(.int (c14.toInt8.toInt32)), (.int 14), (.ref a2)])) _
    refine st103 _ ?_
    show Steps p.tables e below (T103.setTop (mkF m 32 #[.val (.ref a0), .val (.int 14), .val (.ref a2), .val (.int 14), .val (.int 25), .val (.int 14), .val (.int c14)] [])) _
    refine XS.iinc X103.here hx rfl (hb hby d7_32) rfl (l' := #[.val (.ref a0), .val (.int 15), .val (.ref a2), .val (.int 14), .val (.int 25), .val (.int 14), .val (.int c14)]) rfl ?_
    show Steps p.tables e below (T103.setTop (mkF m 35 #[.val (.ref a0), .val (.int 15), .val (.ref a2), .val (.int 14), .val (.int 25), .val (.int 14), .val (.int c14)] [])) _
    refine XS.iinc X103.here hx rfl (hb hby d7_35) rfl (l' := #[.val (.ref a0), .val (.int 15), .val (.ref a2), .val (.int 15), .val (.int 25), .val (.int 14), .val (.int c14)]) rfl ?_
    show Steps p.tables e below (T103.setTop (mkF m 38 #[.val (.ref a0), .val (.int 15), .val (.ref a2), .val (.int 15), .val (.int 25), .val (.int 14), .val (.int c14)] [])) _
    refine XS.iinc X103.here hx rfl (hb hby d7_38) rfl (l' := #[.val (.ref a0), .val (.int 15), .val (.ref a2), .val (.int 15), .val (.int 25), .val (.int 15), .val (.int c14)]) rfl ?_
    refine XS.goto X103.here hx rfl (pc0 := 41) (pc' := 3) rfl (hb hby d7_41) (by decide) (by decide) ?_
    show Steps p.tables e below (T103.setTop (mkF m 3 #[.val (.ref a0), .val (.int 15), .val (.ref a2), .val (.int 15), .val (.int 25), .val (.int 15), .val (.int c14)] [])) _
    refine XS.iload X103.here hx rfl (hb hby d7_3) rfl ?_
    refine XS.iload X103.here hx rfl (hb hby d7_5) rfl ?_
    show Steps p.tables e below (T103.setTop (mkF m 7 #[.val (.ref a0), .val (.int 15), .val (.ref a2), .val (.int 15), .val (.int 25), .val (.int 15), .val (.int c14)] [(.int 25), (.int 15)])) _
    refine XS.icmpNo X103.here hx rfl (hb hby d7_7) rfl (tlt (by decide : (15 : Int32) < (25 : Int32))).2.1 ?_
    refine XS.aloadN X103.here hx rfl (hb hby d7_10) rfl rfl ?_
    show Steps p.tables e below (T103.setTop (mkF m 11 #[.val (.ref a0), .val (.int 15), .val (.ref a2), .val (.int 15), .val (.int 25), .val (.int 15), .val (.int c14)] [(.ref a0)])) _
    refine XS.iloadN X103.here hx rfl (hb hby d7_11) rfl ?_
    show Steps p.tables e below (T103.setTop (mkF m 12 #[.val (.ref a0), .val (.int 15), .val (.ref a2), .val (.int 15), .val (.int 25), .val (.int 15), .val (.int c14)] [(.int 15), (.ref a0)])) _
    refine X103.caload hx (j := (15 : Int32)) (v := (.int c15)) (by rw [e103]; exact Ar106.1) (State.isArrayOf_alike hZ.alike Ar106.2.1) Ar106.2.2 hin106 hat106 (g := (mkF m 12 #[.val (.ref a0), .val (.int 15), .val (.ref a2), .val (.int 15), .val (.int 25), .val (.int 15), .val (.int c14)] [(.int 15), (.ref a0)])) rfl rfl (hb hby d7_12) _ ?_
    refine XS.istore X103.here hx rfl (hb hby d7_13) rfl (l' := #[.val (.ref a0), .val (.int 15), .val (.ref a2), .val (.int 15), .val (.int 25), .val (.int 15), .val (.int c15)]) rfl ?_
    refine XS.iload X103.here hx rfl (hb hby d7_15) rfl ?_
    show Steps p.tables e below (T103.setTop (mkF m 17 #[.val (.ref a0), .val (.int 15), .val (.ref a2), .val (.int 15), .val (.int 25), .val (.int 15), .val (.int c15)] [(.int c15)])) _
    refine XS.sipush X103.here hx rfl (hb hby d7_17) ?_
    show Steps p.tables e below (T103.setTop (mkF m 20 #[.val (.ref a0), .val (.int 15), .val (.ref a2), .val (.int 15), .val (.int 25), .val (.int 15), .val (.int c15)] [(.int 255), (.int c15)])) _
    refine XS.icmpYes X103.here hx rfl (pc0 := 20) (pc' := 26) rfl (hb hby d7_20) rfl (flt hc_15).2.2.2 (by decide) (by decide) ?_
    refine XS.aloadN X103.here hx rfl (hb hby d7_26) rfl rfl ?_
    refine XS.iloadN X103.here hx rfl (hb hby d7_27) rfl ?_
    show Steps p.tables e below (T103.setTop (mkF m 28 #[.val (.ref a0), .val (.int 15), .val (.ref a2), .val (.int 15), .val (.int 25), .val (.int 15), .val (.int c15)] [(.int 15), (.ref a2)])) _
    refine XS.iload X103.here hx rfl (hb hby d7_28) rfl ?_
    show Steps p.tables e below (T103.setTop (mkF m 30 #[.val (.ref a0), .val (.int 15), .val (.ref a2), .val (.int 15), .val (.int 25), .val (.int 15), .val (.int c15)] [(.int c15), (.int 15), (.ref a2)])) _
    refine XS.i2b X103.here hx rfl (hb hby d7_30) rfl ?_
    show Steps p.tables e below (T103.setTop (mkF m 31 #[.val (.ref a0), .val (.int 15), .val (.ref a2), .val (.int 15), .val (.int 25), .val (.int 15), .val (.int c15)] [(.int (c15.toInt8.toInt32)), (.int 15), (.ref a2)])) _
    refine st108 _ ?_
    show Steps p.tables e below (T108.setTop (mkF m 32 #[.val (.ref a0), .val (.int 15), .val (.ref a2), .val (.int 15), .val (.int 25), .val (.int 15), .val (.int c15)] [])) _
    refine XS.iinc X108.here hx rfl (hb hby d7_32) rfl (l' := #[.val (.ref a0), .val (.int 16), .val (.ref a2), .val (.int 15), .val (.int 25), .val (.int 15), .val (.int c15)]) rfl ?_
    show Steps p.tables e below (T108.setTop (mkF m 35 #[.val (.ref a0), .val (.int 16), .val (.ref a2), .val (.int 15), .val (.int 25), .val (.int 15), .val (.int c15)] [])) _
    refine XS.iinc X108.here hx rfl (hb hby d7_35) rfl (l' := #[.val (.ref a0), .val (.int 16), .val (.ref a2), .val (.int 16), .val (.int 25), .val (.int 15), .val (.int c15)]) rfl ?_
    show Steps p.tables e below (T108.setTop (mkF m 38 #[.val (.ref a0), .val (.int 16), .val (.ref a2), .val (.int 16), .val (.int 25), .val (.int 15), .val (.int c15)] [])) _
    refine XS.iinc X108.here hx rfl (hb hby d7_38) rfl (l' := #[.val (.ref a0), .val (.int 16), .val (.ref a2), .val (.int 16), .val (.int 25), .val (.int 16), .val (.int c15)]) rfl ?_
    refine XS.goto X108.here hx rfl (pc0 := 41) (pc' := 3) rfl (hb hby d7_41) (by decide) (by decide) ?_
    refine XS.iload X108.here hx rfl (hb hby d7_3) rfl ?_
    show Steps p.tables e below (T108.setTop (mkF m 5 #[.val (.ref a0), .val (.int 16), .val (.ref a2), .val (.int 16), .val (.int 25), .val (.int 16), .val (.int c15)] [(.int 16)])) _
    refine XS.iload X108.here hx rfl (hb hby d7_5) rfl ?_
    show Steps p.tables e below (T108.setTop (mkF m 7 #[.val (.ref a0), .val (.int 16), .val (.ref a2), .val (.int 16), .val (.int 25), .val (.int 16), .val (.int c15)] [(.int 25), (.int 16)])) _
    refine XS.icmpNo X108.here hx rfl (hb hby d7_7) rfl (tlt (by decide : (16 : Int32) < (25 : Int32))).2.1 ?_
    refine XS.aloadN X108.here hx rfl (hb hby d7_10) rfl rfl ?_
    refine XS.iloadN X108.here hx rfl (hb hby d7_11) rfl ?_
    show Steps p.tables e below (T108.setTop (mkF m 12 #[.val (.ref a0), .val (.int 16), .val (.ref a2), .val (.int 16), .val (.int 25), .val (.int 16), .val (.int c15)] [(.int 16), (.ref a0)])) _
    refine X108.caload hx (j := (16 : Int32)) (v := (.int c16)) (by rw [e108]; exact Ar111.1) (State.isArrayOf_alike hZ.alike Ar111.2.1) Ar111.2.2 hin111 hat111 (g := (mkF m 12 #[.val (.ref a0), .val (.int 16), .val (.ref a2), .val (.int 16), .val (.int 25), .val (.int 16), .val (.int c15)] [(.int 16), (.ref a0)])) rfl rfl (hb hby d7_12) _ ?_
    refine XS.istore X108.here hx rfl (hb hby d7_13) rfl (l' := #[.val (.ref a0), .val (.int 16), .val (.ref a2), .val (.int 16), .val (.int 25), .val (.int 16), .val (.int c16)]) rfl ?_
    refine XS.iload X108.here hx rfl (hb hby d7_15) rfl ?_
    refine XS.sipush X108.here hx rfl (hb hby d7_17) ?_
    show Steps p.tables e below (T108.setTop (mkF m 20 #[.val (.ref a0), .val (.int 16), .val (.ref a2), .val (.int 16), .val (.int 25), .val (.int 16), .val (.int c16)] [(.int 255), (.int c16)])) _
    refine XS.icmpYes X108.here hx rfl (pc0 := 20) (pc' := 26) rfl (hb hby d7_20) rfl (flt hc_16).2.2.2 (by decide) (by decide) ?_
    refine XS.aloadN X108.here hx rfl (hb hby d7_26) rfl rfl ?_
    refine XS.iloadN X108.here hx rfl (hb hby d7_27) rfl ?_
    refine XS.iload X108.here hx rfl (hb hby d7_28) rfl ?_
    show Steps p.tables e below (T108.setTop (mkF m 30 #[.val (.ref a0), .val (.int 16), .val (.ref a2), .val (.int 16), .val (.int 25), .val (.int 16), .val (.int c16)] [(.int c16), (.int 16), (.ref a2)])) _
    refine XS.i2b X108.here hx rfl (hb hby d7_30) rfl ?_
    show Steps p.tables e below (T108.setTop (mkF m 31 #[.val (.ref a0), .val (.int 16), .val (.ref a2), .val (.int 16), .val (.int 25), .val (.int 16), .val (.int c16)] [(.int (c16.toInt8.toInt32)), (.int 16), (.ref a2)])) _
    refine st113 _ ?_
    show Steps p.tables e below (T113.setTop (mkF m 32 #[.val (.ref a0), .val (.int 16), .val (.ref a2), .val (.int 16), .val (.int 25), .val (.int 16), .val (.int c16)] [])) _
    refine XS.iinc X113.here hx rfl (hb hby d7_32) rfl (l' := #[.val (.ref a0), .val (.int 17), .val (.ref a2), .val (.int 16), .val (.int 25), .val (.int 16), .val (.int c16)]) rfl ?_
    show Steps p.tables e below (T113.setTop (mkF m 35 #[.val (.ref a0), .val (.int 17), .val (.ref a2), .val (.int 16), .val (.int 25), .val (.int 16), .val (.int c16)] [])) _
    refine XS.iinc X113.here hx rfl (hb hby d7_35) rfl (l' := #[.val (.ref a0), .val (.int 17), .val (.ref a2), .val (.int 17), .val (.int 25), .val (.int 16), .val (.int c16)]) rfl ?_
    show Steps p.tables e below (T113.setTop (mkF m 38 #[.val (.ref a0), .val (.int 17), .val (.ref a2), .val (.int 17), .val (.int 25), .val (.int 16), .val (.int c16)] [])) _
    refine XS.iinc X113.here hx rfl (hb hby d7_38) rfl (l' := #[.val (.ref a0), .val (.int 17), .val (.ref a2), .val (.int 17), .val (.int 25), .val (.int 17), .val (.int c16)]) rfl ?_
    refine XS.goto X113.here hx rfl (pc0 := 41) (pc' := 3) rfl (hb hby d7_41) (by decide) (by decide) ?_
    refine XS.iload X113.here hx rfl (hb hby d7_3) rfl ?_
    refine XS.iload X113.here hx rfl (hb hby d7_5) rfl ?_
    show Steps p.tables e below (T113.setTop (mkF m 7 #[.val (.ref a0), .val (.int 17), .val (.ref a2), .val (.int 17), .val (.int 25), .val (.int 17), .val (.int c16)] [(.int 25), (.int 17)])) _
    refine XS.icmpNo X113.here hx rfl (hb hby d7_7) rfl (tlt (by decide : (17 : Int32) < (25 : Int32))).2.1 ?_
    refine XS.aloadN X113.here hx rfl (hb hby d7_10) rfl rfl ?_
    refine XS.iloadN X113.here hx rfl (hb hby d7_11) rfl ?_
    show Steps p.tables e below (T113.setTop (mkF m 12 #[.val (.ref a0), .val (.int 17), .val (.ref a2), .val (.int 17), .val (.int 25), .val (.int 17), .val (.int c16)] [(.int 17), (.ref a0)])) _
    refine X113.caload hx (j := (17 : Int32)) (v := (.int c17)) (by rw [e113]; exact Ar116.1) (State.isArrayOf_alike hZ.alike Ar116.2.1) Ar116.2.2 hin116 hat116 (g := (mkF m 12 #[.val (.ref a0), .val (.int 17), .val (.ref a2), .val (.int 17), .val (.int 25), .val (.int 17), .val (.int c16)] [(.int 17), (.ref a0)])) rfl rfl (hb hby d7_12) _ ?_
    show Steps p.tables e below (T113.setTop (mkF m 13 #[.val (.ref a0), .val (.int 17), .val (.ref a2), .val (.int 17), .val (.int 25), .val (.int 17), .val (.int c16)] [(.int c17)])) _
    refine XS.istore X113.here hx rfl (hb hby d7_13) rfl (l' := #[.val (.ref a0), .val (.int 17), .val (.ref a2), .val (.int 17), .val (.int 25), .val (.int 17), .val (.int c17)]) rfl ?_
    refine XS.iload X113.here hx rfl (hb hby d7_15) rfl ?_
    refine XS.sipush X113.here hx rfl (hb hby d7_17) ?_
    show Steps p.tables e below (T113.setTop (mkF m 20 #[.val (.ref a0), .val (.int 17), .val (.ref a2), .val (.int 17), .val (.int 25), .val (.int 17), .val (.int c17)] [(.int 255), (.int c17)])) _
    refine XS.icmpYes X113.here hx rfl (pc0 := 20) (pc' := 26) rfl (hb hby d7_20) rfl (flt hc_17).2.2.2 (by decide) (by decide) ?_
    show Steps p.tables e below (T113.setTop (mkF m 26 #[.val (.ref a0), .val (.int 17), .val (.ref a2), .val (.int 17), .val (.int 25), .val (.int 17), .val (.int c17)] [])) _
    refine XS.aloadN X113.here hx rfl (hb hby d7_26) rfl rfl ?_
    refine XS.iloadN X113.here hx rfl (hb hby d7_27) rfl ?_
    refine XS.iload X113.here hx rfl (hb hby d7_28) rfl ?_
    show Steps p.tables e below (T113.setTop (mkF m 30 #[.val (.ref a0), .val (.int 17), .val (.ref a2), .val (.int 17), .val (.int 25), .val (.int 17), .val (.int c17)] [(.int c17), (.int 17), (.ref a2)])) _
    refine XS.i2b X113.here hx rfl (hb hby d7_30) rfl ?_
    show Steps p.tables e below (T113.setTop (mkF m 31 #[.val (.ref a0), .val (.int 17), .val (.ref a2), .val (.int 17), .val (.int 25), .val (.int 17), .val (.int c17)] [(.int (c17.toInt8.toInt32)), (.int 17), (.ref a2)])) _
    refine st118 _ ?_
    show Steps p.tables e below (T118.setTop (mkF m 32 #[.val (.ref a0), .val (.int 17), .val (.ref a2), .val (.int 17), .val (.int 25), .val (.int 17), .val (.int c17)] [])) _
    refine XS.iinc X118.here hx rfl (hb hby d7_32) rfl (l' := #[.val (.ref a0), .val (.int 18), .val (.ref a2), .val (.int 17), .val (.int 25), .val (.int 17), .val (.int c17)]) rfl ?_
    show Steps p.tables e below (T118.setTop (mkF m 35 #[.val (.ref a0), .val (.int 18), .val (.ref a2), .val (.int 17), .val (.int 25), .val (.int 17), .val (.int c17)] [])) _
    refine XS.iinc X118.here hx rfl (hb hby d7_35) rfl (l' := #[.val (.ref a0), .val (.int 18), .val (.ref a2), .val (.int 18), .val (.int 25), .val (.int 17), .val (.int c17)]) rfl ?_
    show Steps p.tables e below (T118.setTop (mkF m 38 #[.val (.ref a0), .val (.int 18), .val (.ref a2), .val (.int 18), .val (.int 25), .val (.int 17), .val (.int c17)] [])) _
    refine XS.iinc X118.here hx rfl (hb hby d7_38) rfl (l' := #[.val (.ref a0), .val (.int 18), .val (.ref a2), .val (.int 18), .val (.int 25), .val (.int 18), .val (.int c17)]) rfl ?_
    show Steps p.tables e below (T118.setTop (mkF m 41 #[.val (.ref a0), .val (.int 18), .val (.ref a2), .val (.int 18), .val (.int 25), .val (.int 18), .val (.int c17)] [])) _
    refine XS.goto X118.here hx rfl (pc0 := 41) (pc' := 3) rfl (hb hby d7_41) (by decide) (by decide) ?_
    refine XS.iload X118.here hx rfl (hb hby d7_3) rfl ?_
    refine XS.iload X118.here hx rfl (hb hby d7_5) rfl ?_
    show Steps p.tables e below (T118.setTop (mkF m 7 #[.val (.ref a0), .val (.int 18), .val (.ref a2), .val (.int 18), .val (.int 25), .val (.int 18), .val (.int c17)] [(.int 25), (.int 18)])) _
    refine XS.icmpNo X118.here hx rfl (hb hby d7_7) rfl (tlt (by decide : (18 : Int32) < (25 : Int32))).2.1 ?_
    show Steps p.tables e below (T118.setTop (mkF m 10 #[.val (.ref a0), .val (.int 18), .val (.ref a2), .val (.int 18), .val (.int 25), .val (.int 18), .val (.int c17)] [])) _
    refine XS.aloadN X118.here hx rfl (hb hby d7_10) rfl rfl ?_
    refine XS.iloadN X118.here hx rfl (hb hby d7_11) rfl ?_
    show Steps p.tables e below (T118.setTop (mkF m 12 #[.val (.ref a0), .val (.int 18), .val (.ref a2), .val (.int 18), .val (.int 25), .val (.int 18), .val (.int c17)] [(.int 18), (.ref a0)])) _
    refine X118.caload hx (j := (18 : Int32)) (v := (.int c18)) (by rw [e118]; exact Ar121.1) (State.isArrayOf_alike hZ.alike Ar121.2.1) Ar121.2.2 hin121 hat121 (g := (mkF m 12 #[.val (.ref a0), .val (.int 18), .val (.ref a2), .val (.int 18), .val (.int 25), .val (.int 18), .val (.int c17)] [(.int 18), (.ref a0)])) rfl rfl (hb hby d7_12) _ ?_
    refine XS.istore X118.here hx rfl (hb hby d7_13) rfl (l' := #[.val (.ref a0), .val (.int 18), .val (.ref a2), .val (.int 18), .val (.int 25), .val (.int 18), .val (.int c18)]) rfl ?_
    show Steps p.tables e below (T118.setTop (mkF m 15 #[.val (.ref a0), .val (.int 18), .val (.ref a2), .val (.int 18), .val (.int 25), .val (.int 18), .val (.int c18)] [])) _
    refine XS.iload X118.here hx rfl (hb hby d7_15) rfl ?_
    refine XS.sipush X118.here hx rfl (hb hby d7_17) ?_
    show Steps p.tables e below (T118.setTop (mkF m 20 #[.val (.ref a0), .val (.int 18), .val (.ref a2), .val (.int 18), .val (.int 25), .val (.int 18), .val (.int c18)] [(.int 255), (.int c18)])) _
    refine XS.icmpYes X118.here hx rfl (pc0 := 20) (pc' := 26) rfl (hb hby d7_20) rfl (flt hc_18).2.2.2 (by decide) (by decide) ?_
    refine XS.aloadN X118.here hx rfl (hb hby d7_26) rfl rfl ?_
    show Steps p.tables e below (T118.setTop (mkF m 27 #[.val (.ref a0), .val (.int 18), .val (.ref a2), .val (.int 18), .val (.int 25), .val (.int 18), .val (.int c18)] [(.ref a2)])) _
    refine XS.iloadN X118.here hx rfl (hb hby d7_27) rfl ?_
    refine XS.iload X118.here hx rfl (hb hby d7_28) rfl ?_
    show Steps p.tables e below (T118.setTop (mkF m 30 #[.val (.ref a0), .val (.int 18), .val (.ref a2), .val (.int 18), .val (.int 25), .val (.int 18), .val (.int c18)] [(.int c18), (.int 18), (.ref a2)])) _
    refine XS.i2b X118.here hx rfl (hb hby d7_30) rfl ?_
    show Steps p.tables e below (T118.setTop (mkF m 31 #[.val (.ref a0), .val (.int 18), .val (.ref a2), .val (.int 18), .val (.int 25), .val (.int 18), .val (.int c18)] [(.int (c18.toInt8.toInt32)), (.int 18), (.ref a2)])) _
    refine st123 _ ?_
    show Steps p.tables e below (T123.setTop (mkF m 32 #[.val (.ref a0), .val (.int 18), .val (.ref a2), .val (.int 18), .val (.int 25), .val (.int 18), .val (.int c18)] [])) _
    refine XS.iinc X123.here hx rfl (hb hby d7_32) rfl (l' := #[.val (.ref a0), .val (.int 19), .val (.ref a2), .val (.int 18), .val (.int 25), .val (.int 18), .val (.int c18)]) rfl ?_
    show Steps p.tables e below (T123.setTop (mkF m 35 #[.val (.ref a0), .val (.int 19), .val (.ref a2), .val (.int 18), .val (.int 25), .val (.int 18), .val (.int c18)] [])) _
    refine XS.iinc X123.here hx rfl (hb hby d7_35) rfl (l' := #[.val (.ref a0), .val (.int 19), .val (.ref a2), .val (.int 19), .val (.int 25), .val (.int 18), .val (.int c18)]) rfl ?_
    show Steps p.tables e below (T123.setTop (mkF m 38 #[.val (.ref a0), .val (.int 19), .val (.ref a2), .val (.int 19), .val (.int 25), .val (.int 18), .val (.int c18)] [])) _
    refine XS.iinc X123.here hx rfl (hb hby d7_38) rfl (l' := #[.val (.ref a0), .val (.int 19), .val (.ref a2), .val (.int 19), .val (.int 25), .val (.int 19), .val (.int c18)]) rfl ?_
    refine XS.goto X123.here hx rfl (pc0 := 41) (pc' := 3) rfl (hb hby d7_41) (by decide) (by decide) ?_
    show Steps p.tables e below (T123.setTop (mkF m 3 #[.val (.ref a0), .val (.int 19), .val (.ref a2), .val (.int 19), .val (.int 25), .val (.int 19), .val (.int c18)] [])) _
    refine XS.iload X123.here hx rfl (hb hby d7_3) rfl ?_
    refine XS.iload X123.here hx rfl (hb hby d7_5) rfl ?_
    show Steps p.tables e below (T123.setTop (mkF m 7 #[.val (.ref a0), .val (.int 19), .val (.ref a2), .val (.int 19), .val (.int 25), .val (.int 19), .val (.int c18)] [(.int 25), (.int 19)])) _
    refine XS.icmpNo X123.here hx rfl (hb hby d7_7) rfl (tlt (by decide : (19 : Int32) < (25 : Int32))).2.1 ?_
    refine XS.aloadN X123.here hx rfl (hb hby d7_10) rfl rfl ?_
    show Steps p.tables e below (T123.setTop (mkF m 11 #[.val (.ref a0), .val (.int 19), .val (.ref a2), .val (.int 19), .val (.int 25), .val (.int 19), .val (.int c18)] [(.ref a0)])) _
    refine XS.iloadN X123.here hx rfl (hb hby d7_11) rfl ?_
    show Steps p.tables e below (T123.setTop (mkF m 12 #[.val (.ref a0), .val (.int 19), .val (.ref a2), .val (.int 19), .val (.int 25), .val (.int 19), .val (.int c18)] [(.int 19), (.ref a0)])) _
    refine X123.caload hx (j := (19 : Int32)) (v := (.int c19)) (by rw [e123]; exact Ar126.1) (State.isArrayOf_alike hZ.alike Ar126.2.1) Ar126.2.2 hin126 hat126 (g := (mkF m 12 #[.val (.ref a0), .val (.int 19), .val (.ref a2), .val (.int 19), .val (.int 25), .val (.int 19), .val (.int c18)] [(.int 19), (.ref a0)])) rfl rfl (hb hby d7_12) _ ?_
    refine XS.istore X123.here hx rfl (hb hby d7_13) rfl (l' := #[.val (.ref a0), .val (.int 19), .val (.ref a2), .val (.int 19), .val (.int 25), .val (.int 19), .val (.int c19)]) rfl ?_
    refine XS.iload X123.here hx rfl (hb hby d7_15) rfl ?_
    show Steps p.tables e below (T123.setTop (mkF m 17 #[.val (.ref a0), .val (.int 19), .val (.ref a2), .val (.int 19), .val (.int 25), .val (.int 19), .val (.int c19)] [(.int c19)])) _
    refine XS.sipush X123.here hx rfl (hb hby d7_17) ?_
    show Steps p.tables e below (T123.setTop (mkF m 20 #[.val (.ref a0), .val (.int 19), .val (.ref a2), .val (.int 19), .val (.int 25), .val (.int 19), .val (.int c19)] [(.int 255), (.int c19)])) _
    refine XS.icmpYes X123.here hx rfl (pc0 := 20) (pc' := 26) rfl (hb hby d7_20) rfl (flt hc_19).2.2.2 (by decide) (by decide) ?_
    refine XS.aloadN X123.here hx rfl (hb hby d7_26) rfl rfl ?_
    refine XS.iloadN X123.here hx rfl (hb hby d7_27) rfl ?_
    show Steps p.tables e below (T123.setTop (mkF m 28 #[.val (.ref a0), .val (.int 19), .val (.ref a2), .val (.int 19), .val (.int 25), .val (.int 19), .val (.int c19)] [(.int 19), (.ref a2)])) _
    refine XS.iload X123.here hx rfl (hb hby d7_28) rfl ?_
    show Steps p.tables e below (T123.setTop (mkF m 30 #[.val (.ref a0), .val (.int 19), .val (.ref a2), .val (.int 19), .val (.int 25), .val (.int 19), .val (.int c19)] [(.int c19), (.int 19), (.ref a2)])) _
    refine XS.i2b X123.here hx rfl (hb hby d7_30) rfl ?_
    show Steps p.tables e below (T123.setTop (mkF m 31 #[.val (.ref a0), .val (.int 19), .val (.ref a2), .val (.int 19), .val (.int 25), .val (.int 19), .val (.int c19)] [(.int (c19.toInt8.toInt32)), (.int 19), (.ref a2)])) _
    refine st128 _ ?_
    show Steps p.tables e below (T128.setTop (mkF m 32 #[.val (.ref a0), .val (.int 19), .val (.ref a2), .val (.int 19), .val (.int 25), .val (.int 19), .val (.int c19)] [])) _
    refine XS.iinc X128.here hx rfl (hb hby d7_32) rfl (l' := #[.val (.ref a0), .val (.int 20), .val (.ref a2), .val (.int 19), .val (.int 25), .val (.int 19), .val (.int c19)]) rfl ?_
    show Steps p.tables e below (T128.setTop (mkF m 35 #[.val (.ref a0), .val (.int 20), .val (.ref a2), .val (.int 19), .val (.int 25), .val (.int 19), .val (.int c19)] [])) _
    refine XS.iinc X128.here hx rfl (hb hby d7_35) rfl (l' := #[.val (.ref a0), .val (.int 20), .val (.ref a2), .val (.int 20), .val (.int 25), .val (.int 19), .val (.int c19)]) rfl ?_
    show Steps p.tables e below (T128.setTop (mkF m 38 #[.val (.ref a0), .val (.int 20), .val (.ref a2), .val (.int 20), .val (.int 25), .val (.int 19), .val (.int c19)] [])) _
    refine XS.iinc X128.here hx rfl (hb hby d7_38) rfl (l' := #[.val (.ref a0), .val (.int 20), .val (.ref a2), .val (.int 20), .val (.int 25), .val (.int 20), .val (.int c19)]) rfl ?_
    refine XS.goto X128.here hx rfl (pc0 := 41) (pc' := 3) rfl (hb hby d7_41) (by decide) (by decide) ?_
    refine XS.iload X128.here hx rfl (hb hby d7_3) rfl ?_
    show Steps p.tables e below (T128.setTop (mkF m 5 #[.val (.ref a0), .val (.int 20), .val (.ref a2), .val (.int 20), .val (.int 25), .val (.int 20), .val (.int c19)] [(.int 20)])) _
    refine XS.iload X128.here hx rfl (hb hby d7_5) rfl ?_
    show Steps p.tables e below (T128.setTop (mkF m 7 #[.val (.ref a0), .val (.int 20), .val (.ref a2), .val (.int 20), .val (.int 25), .val (.int 20), .val (.int c19)] [(.int 25), (.int 20)])) _
    refine XS.icmpNo X128.here hx rfl (hb hby d7_7) rfl (tlt (by decide : (20 : Int32) < (25 : Int32))).2.1 ?_
    refine XS.aloadN X128.here hx rfl (hb hby d7_10) rfl rfl ?_
    refine XS.iloadN X128.here hx rfl (hb hby d7_11) rfl ?_
    show Steps p.tables e below (T128.setTop (mkF m 12 #[.val (.ref a0), .val (.int 20), .val (.ref a2), .val (.int 20), .val (.int 25), .val (.int 20), .val (.int c19)] [(.int 20), (.ref a0)])) _
    refine X128.caload hx (j := (20 : Int32)) (v := (.int c20)) (by rw [e128]; exact Ar131.1) (State.isArrayOf_alike hZ.alike Ar131.2.1) Ar131.2.2 hin131 hat131 (g := (mkF m 12 #[.val (.ref a0), .val (.int 20), .val (.ref a2), .val (.int 20), .val (.int 25), .val (.int 20), .val (.int c19)] [(.int 20), (.ref a0)])) rfl rfl (hb hby d7_12) _ ?_
    refine XS.istore X128.here hx rfl (hb hby d7_13) rfl (l' := #[.val (.ref a0), .val (.int 20), .val (.ref a2), .val (.int 20), .val (.int 25), .val (.int 20), .val (.int c20)]) rfl ?_
    refine XS.iload X128.here hx rfl (hb hby d7_15) rfl ?_
    refine XS.sipush X128.here hx rfl (hb hby d7_17) ?_
    show Steps p.tables e below (T128.setTop (mkF m 20 #[.val (.ref a0), .val (.int 20), .val (.ref a2), .val (.int 20), .val (.int 25), .val (.int 20), .val (.int c20)] [(.int 255), (.int c20)])) _
    refine XS.icmpYes X128.here hx rfl (pc0 := 20) (pc' := 26) rfl (hb hby d7_20) rfl (flt hc_20).2.2.2 (by decide) (by decide) ?_
    refine XS.aloadN X128.here hx rfl (hb hby d7_26) rfl rfl ?_
    refine XS.iloadN X128.here hx rfl (hb hby d7_27) rfl ?_
    refine XS.iload X128.here hx rfl (hb hby d7_28) rfl ?_
    show Steps p.tables e below (T128.setTop (mkF m 30 #[.val (.ref a0), .val (.int 20), .val (.ref a2), .val (.int 20), .val (.int 25), .val (.int 20), .val (.int c20)] [(.int c20), (.int 20), (.ref a2)])) _
    refine XS.i2b X128.here hx rfl (hb hby d7_30) rfl ?_
    show Steps p.tables e below (T128.setTop (mkF m 31 #[.val (.ref a0), .val (.int 20), .val (.ref a2), .val (.int 20), .val (.int 25), .val (.int 20), .val (.int c20)] [(.int (c20.toInt8.toInt32)), (.int 20), (.ref a2)])) _
    refine st133 _ ?_
    show Steps p.tables e below (T133.setTop (mkF m 32 #[.val (.ref a0), .val (.int 20), .val (.ref a2), .val (.int 20), .val (.int 25), .val (.int 20), .val (.int c20)] [])) _
    refine XS.iinc X133.here hx rfl (hb hby d7_32) rfl (l' := #[.val (.ref a0), .val (.int 21), .val (.ref a2), .val (.int 20), .val (.int 25), .val (.int 20), .val (.int c20)]) rfl ?_
    show Steps p.tables e below (T133.setTop (mkF m 35 #[.val (.ref a0), .val (.int 21), .val (.ref a2), .val (.int 20), .val (.int 25), .val (.int 20), .val (.int c20)] [])) _
    refine XS.iinc X133.here hx rfl (hb hby d7_35) rfl (l' := #[.val (.ref a0), .val (.int 21), .val (.ref a2), .val (.int 21), .val (.int 25), .val (.int 20), .val (.int c20)]) rfl ?_
    show Steps p.tables e below (T133.setTop (mkF m 38 #[.val (.ref a0), .val (.int 21), .val (.ref a2), .val (.int 21), .val (.int 25), .val (.int 20), .val (.int c20)] [])) _
    refine XS.iinc X133.here hx rfl (hb hby d7_38) rfl (l' := #[.val (.ref a0), .val (.int 21), .val (.ref a2), .val (.int 21), .val (.int 25), .val (.int 21), .val (.int c20)]) rfl ?_
    refine XS.goto X133.here hx rfl (pc0 := 41) (pc' := 3) rfl (hb hby d7_41) (by decide) (by decide) ?_
    refine XS.iload X133.here hx rfl (hb hby d7_3) rfl ?_
    refine XS.iload X133.here hx rfl (hb hby d7_5) rfl ?_
    show Steps p.tables e below (T133.setTop (mkF m 7 #[.val (.ref a0), .val (.int 21), .val (.ref a2), .val (.int 21), .val (.int 25), .val (.int 21), .val (.int c20)] [(.int 25), (.int 21)])) _
    refine XS.icmpNo X133.here hx rfl (hb hby d7_7) rfl (tlt (by decide : (21 : Int32) < (25 : Int32))).2.1 ?_
    refine XS.aloadN X133.here hx rfl (hb hby d7_10) rfl rfl ?_
    refine XS.iloadN X133.here hx rfl (hb hby d7_11) rfl ?_
    show Steps p.tables e below (T133.setTop (mkF m 12 #[.val (.ref a0), .val (.int 21), .val (.ref a2), .val (.int 21), .val (.int 25), .val (.int 21), .val (.int c20)] [(.int 21), (.ref a0)])) _
    refine X133.caload hx (j := (21 : Int32)) (v := (.int c21)) (by rw [e133]; exact Ar136.1) (State.isArrayOf_alike hZ.alike Ar136.2.1) Ar136.2.2 hin136 hat136 (g := (mkF m 12 #[.val (.ref a0), .val (.int 21), .val (.ref a2), .val (.int 21), .val (.int 25), .val (.int 21), .val (.int c20)] [(.int 21), (.ref a0)])) rfl rfl (hb hby d7_12) _ ?_
    show Steps p.tables e below (T133.setTop (mkF m 13 #[.val (.ref a0), .val (.int 21), .val (.ref a2), .val (.int 21), .val (.int 25), .val (.int 21), .val (.int c20)] [(.int c21)])) _
    refine XS.istore X133.here hx rfl (hb hby d7_13) rfl (l' := #[.val (.ref a0), .val (.int 21), .val (.ref a2), .val (.int 21), .val (.int 25), .val (.int 21), .val (.int c21)]) rfl ?_
    refine XS.iload X133.here hx rfl (hb hby d7_15) rfl ?_
    refine XS.sipush X133.here hx rfl (hb hby d7_17) ?_
    show Steps p.tables e below (T133.setTop (mkF m 20 #[.val (.ref a0), .val (.int 21), .val (.ref a2), .val (.int 21), .val (.int 25), .val (.int 21), .val (.int c21)] [(.int 255), (.int c21)])) _
    refine XS.icmpYes X133.here hx rfl (pc0 := 20) (pc' := 26) rfl (hb hby d7_20) rfl (flt hc_21).2.2.2 (by decide) (by decide) ?_
    show Steps p.tables e below (T133.setTop (mkF m 26 #[.val (.ref a0), .val (.int 21), .val (.ref a2), .val (.int 21), .val (.int 25), .val (.int 21), .val (.int c21)] [])) _
    refine XS.aloadN X133.here hx rfl (hb hby d7_26) rfl rfl ?_
    refine XS.iloadN X133.here hx rfl (hb hby d7_27) rfl ?_
    refine XS.iload X133.here hx rfl (hb hby d7_28) rfl ?_
    show Steps p.tables e below (T133.setTop (mkF m 30 #[.val (.ref a0), .val (.int 21), .val (.ref a2), .val (.int 21), .val (.int 25), .val (.int 21), .val (.int c21)] [(.int c21), (.int 21), (.ref a2)])) _
    refine XS.i2b X133.here hx rfl (hb hby d7_30) rfl ?_
    show Steps p.tables e below (T133.setTop (mkF m 31 #[.val (.ref a0), .val (.int 21), .val (.ref a2), .val (.int 21), .val (.int 25), .val (.int 21), .val (.int c21)] [(.int (c21.toInt8.toInt32)), (.int 21), (.ref a2)])) _
    refine st138 _ ?_
    show Steps p.tables e below (T138.setTop (mkF m 32 #[.val (.ref a0), .val (.int 21), .val (.ref a2), .val (.int 21), .val (.int 25), .val (.int 21), .val (.int c21)] [])) _
    refine XS.iinc X138.here hx rfl (hb hby d7_32) rfl (l' := #[.val (.ref a0), .val (.int 22), .val (.ref a2), .val (.int 21), .val (.int 25), .val (.int 21), .val (.int c21)]) rfl ?_
    show Steps p.tables e below (T138.setTop (mkF m 35 #[.val (.ref a0), .val (.int 22), .val (.ref a2), .val (.int 21), .val (.int 25), .val (.int 21), .val (.int c21)] [])) _
    refine XS.iinc X138.here hx rfl (hb hby d7_35) rfl (l' := #[.val (.ref a0), .val (.int 22), .val (.ref a2), .val (.int 22), .val (.int 25), .val (.int 21), .val (.int c21)]) rfl ?_
    show Steps p.tables e below (T138.setTop (mkF m 38 #[.val (.ref a0), .val (.int 22), .val (.ref a2), .val (.int 22), .val (.int 25), .val (.int 21), .val (.int c21)] [])) _
    refine XS.iinc X138.here hx rfl (hb hby d7_38) rfl (l' := #[.val (.ref a0), .val (.int 22), .val (.ref a2), .val (.int 22), .val (.int 25), .val (.int 22), .val (.int c21)]) rfl ?_
    show Steps p.tables e below (T138.setTop (mkF m 41 #[.val (.ref a0), .val (.int 22), .val (.ref a2), .val (.int 22), .val (.int 25), .val (.int 22), .val (.int c21)] [])) _
    refine XS.goto X138.here hx rfl (pc0 := 41) (pc' := 3) rfl (hb hby d7_41) (by decide) (by decide) ?_
    refine XS.iload X138.here hx rfl (hb hby d7_3) rfl ?_
    refine XS.iload X138.here hx rfl (hb hby d7_5) rfl ?_
    show Steps p.tables e below (T138.setTop (mkF m 7 #[.val (.ref a0), .val (.int 22), .val (.ref a2), .val (.int 22), .val (.int 25), .val (.int 22), .val (.int c21)] [(.int 25), (.int 22)])) _
    refine XS.icmpNo X138.here hx rfl (hb hby d7_7) rfl (tlt (by decide : (22 : Int32) < (25 : Int32))).2.1 ?_
    show Steps p.tables e below (T138.setTop (mkF m 10 #[.val (.ref a0), .val (.int 22), .val (.ref a2), .val (.int 22), .val (.int 25), .val (.int 22), .val (.int c21)] [])) _
    refine XS.aloadN X138.here hx rfl (hb hby d7_10) rfl rfl ?_
    refine XS.iloadN X138.here hx rfl (hb hby d7_11) rfl ?_
    show Steps p.tables e below (T138.setTop (mkF m 12 #[.val (.ref a0), .val (.int 22), .val (.ref a2), .val (.int 22), .val (.int 25), .val (.int 22), .val (.int c21)] [(.int 22), (.ref a0)])) _
    refine X138.caload hx (j := (22 : Int32)) (v := (.int c22)) (by rw [e138]; exact Ar141.1) (State.isArrayOf_alike hZ.alike Ar141.2.1) Ar141.2.2 hin141 hat141 (g := (mkF m 12 #[.val (.ref a0), .val (.int 22), .val (.ref a2), .val (.int 22), .val (.int 25), .val (.int 22), .val (.int c21)] [(.int 22), (.ref a0)])) rfl rfl (hb hby d7_12) _ ?_
    refine XS.istore X138.here hx rfl (hb hby d7_13) rfl (l' := #[.val (.ref a0), .val (.int 22), .val (.ref a2), .val (.int 22), .val (.int 25), .val (.int 22), .val (.int c22)]) rfl ?_
    show Steps p.tables e below (T138.setTop (mkF m 15 #[.val (.ref a0), .val (.int 22), .val (.ref a2), .val (.int 22), .val (.int 25), .val (.int 22), .val (.int c22)] [])) _
    refine XS.iload X138.here hx rfl (hb hby d7_15) rfl ?_
    refine XS.sipush X138.here hx rfl (hb hby d7_17) ?_
    show Steps p.tables e below (T138.setTop (mkF m 20 #[.val (.ref a0), .val (.int 22), .val (.ref a2), .val (.int 22), .val (.int 25), .val (.int 22), .val (.int c22)] [(.int 255), (.int c22)])) _
    refine XS.icmpYes X138.here hx rfl (pc0 := 20) (pc' := 26) rfl (hb hby d7_20) rfl (flt hc_22).2.2.2 (by decide) (by decide) ?_
    refine XS.aloadN X138.here hx rfl (hb hby d7_26) rfl rfl ?_
    show Steps p.tables e below (T138.setTop (mkF m 27 #[.val (.ref a0), .val (.int 22), .val (.ref a2), .val (.int 22), .val (.int 25), .val (.int 22), .val (.int c22)] [(.ref a2)])) _
    refine XS.iloadN X138.here hx rfl (hb hby d7_27) rfl ?_
    refine XS.iload X138.here hx rfl (hb hby d7_28) rfl ?_
    show Steps p.tables e below (T138.setTop (mkF m 30 #[.val (.ref a0), .val (.int 22), .val (.ref a2), .val (.int 22), .val (.int 25), .val (.int 22), .val (.int c22)] [(.int c22), (.int 22), (.ref a2)])) _
    refine XS.i2b X138.here hx rfl (hb hby d7_30) rfl ?_
    show Steps p.tables e below (T138.setTop (mkF m 31 #[.val (.ref a0), .val (.int 22), .val (.ref a2), .val (.int 22), .val (.int 25), .val (.int 22), .val (.int c22)] [(.int (c22.toInt8.toInt32)), (.int 22), (.ref a2)])) _
    refine st143 _ ?_
    show Steps p.tables e below (T143.setTop (mkF m 32 #[.val (.ref a0), .val (.int 22), .val (.ref a2), .val (.int 22), .val (.int 25), .val (.int 22), .val (.int c22)] [])) _
    refine XS.iinc X143.here hx rfl (hb hby d7_32) rfl (l' := #[.val (.ref a0), .val (.int 23), .val (.ref a2), .val (.int 22), .val (.int 25), .val (.int 22), .val (.int c22)]) rfl ?_
    show Steps p.tables e below (T143.setTop (mkF m 35 #[.val (.ref a0), .val (.int 23), .val (.ref a2), .val (.int 22), .val (.int 25), .val (.int 22), .val (.int c22)] [])) _
    refine XS.iinc X143.here hx rfl (hb hby d7_35) rfl (l' := #[.val (.ref a0), .val (.int 23), .val (.ref a2), .val (.int 23), .val (.int 25), .val (.int 22), .val (.int c22)]) rfl ?_
    show Steps p.tables e below (T143.setTop (mkF m 38 #[.val (.ref a0), .val (.int 23), .val (.ref a2), .val (.int 23), .val (.int 25), .val (.int 22), .val (.int c22)] [])) _
    refine XS.iinc X143.here hx rfl (hb hby d7_38) rfl (l' := #[.val (.ref a0), .val (.int 23), .val (.ref a2), .val (.int 23), .val (.int 25), .val (.int 23), .val (.int c22)]) rfl ?_
    refine XS.goto X143.here hx rfl (pc0 := 41) (pc' := 3) rfl (hb hby d7_41) (by decide) (by decide) ?_
    show Steps p.tables e below (T143.setTop (mkF m 3 #[.val (.ref a0), .val (.int 23), .val (.ref a2), .val (.int 23), .val (.int 25), .val (.int 23), .val (.int c22)] [])) _
    refine XS.iload X143.here hx rfl (hb hby d7_3) rfl ?_
    refine XS.iload X143.here hx rfl (hb hby d7_5) rfl ?_
    show Steps p.tables e below (T143.setTop (mkF m 7 #[.val (.ref a0), .val (.int 23), .val (.ref a2), .val (.int 23), .val (.int 25), .val (.int 23), .val (.int c22)] [(.int 25), (.int 23)])) _
    refine XS.icmpNo X143.here hx rfl (hb hby d7_7) rfl (tlt (by decide : (23 : Int32) < (25 : Int32))).2.1 ?_
    refine XS.aloadN X143.here hx rfl (hb hby d7_10) rfl rfl ?_
    show Steps p.tables e below (T143.setTop (mkF m 11 #[.val (.ref a0), .val (.int 23), .val (.ref a2), .val (.int 23), .val (.int 25), .val (.int 23), .val (.int c22)] [(.ref a0)])) _
    refine XS.iloadN X143.here hx rfl (hb hby d7_11) rfl ?_
    show Steps p.tables e below (T143.setTop (mkF m 12 #[.val (.ref a0), .val (.int 23), .val (.ref a2), .val (.int 23), .val (.int 25), .val (.int 23), .val (.int c22)] [(.int 23), (.ref a0)])) _
    refine X143.caload hx (j := (23 : Int32)) (v := (.int c23)) (by rw [e143]; exact Ar146.1) (State.isArrayOf_alike hZ.alike Ar146.2.1) Ar146.2.2 hin146 hat146 (g := (mkF m 12 #[.val (.ref a0), .val (.int 23), .val (.ref a2), .val (.int 23), .val (.int 25), .val (.int 23), .val (.int c22)] [(.int 23), (.ref a0)])) rfl rfl (hb hby d7_12) _ ?_
    refine XS.istore X143.here hx rfl (hb hby d7_13) rfl (l' := #[.val (.ref a0), .val (.int 23), .val (.ref a2), .val (.int 23), .val (.int 25), .val (.int 23), .val (.int c23)]) rfl ?_
    refine XS.iload X143.here hx rfl (hb hby d7_15) rfl ?_
    show Steps p.tables e below (T143.setTop (mkF m 17 #[.val (.ref a0), .val (.int 23), .val (.ref a2), .val (.int 23), .val (.int 25), .val (.int 23), .val (.int c23)] [(.int c23)])) _
    refine XS.sipush X143.here hx rfl (hb hby d7_17) ?_
    show Steps p.tables e below (T143.setTop (mkF m 20 #[.val (.ref a0), .val (.int 23), .val (.ref a2), .val (.int 23), .val (.int 25), .val (.int 23), .val (.int c23)] [(.int 255), (.int c23)])) _
    refine XS.icmpYes X143.here hx rfl (pc0 := 20) (pc' := 26) rfl (hb hby d7_20) rfl (flt hc_23).2.2.2 (by decide) (by decide) ?_
    refine XS.aloadN X143.here hx rfl (hb hby d7_26) rfl rfl ?_
    refine XS.iloadN X143.here hx rfl (hb hby d7_27) rfl ?_
    show Steps p.tables e below (T143.setTop (mkF m 28 #[.val (.ref a0), .val (.int 23), .val (.ref a2), .val (.int 23), .val (.int 25), .val (.int 23), .val (.int c23)] [(.int 23), (.ref a2)])) _
    refine XS.iload X143.here hx rfl (hb hby d7_28) rfl ?_
    show Steps p.tables e below (T143.setTop (mkF m 30 #[.val (.ref a0), .val (.int 23), .val (.ref a2), .val (.int 23), .val (.int 25), .val (.int 23), .val (.int c23)] [(.int c23), (.int 23), (.ref a2)])) _
    refine XS.i2b X143.here hx rfl (hb hby d7_30) rfl ?_
    show Steps p.tables e below (T143.setTop (mkF m 31 #[.val (.ref a0), .val (.int 23), .val (.ref a2), .val (.int 23), .val (.int 25), .val (.int 23), .val (.int c23)] [(.int (c23.toInt8.toInt32)), (.int 23), (.ref a2)])) _
    refine st148 _ ?_
    show Steps p.tables e below (T148.setTop (mkF m 32 #[.val (.ref a0), .val (.int 23), .val (.ref a2), .val (.int 23), .val (.int 25), .val (.int 23), .val (.int c23)] [])) _
    refine XS.iinc X148.here hx rfl (hb hby d7_32) rfl (l' := #[.val (.ref a0), .val (.int 24), .val (.ref a2), .val (.int 23), .val (.int 25), .val (.int 23), .val (.int c23)]) rfl ?_
    show Steps p.tables e below (T148.setTop (mkF m 35 #[.val (.ref a0), .val (.int 24), .val (.ref a2), .val (.int 23), .val (.int 25), .val (.int 23), .val (.int c23)] [])) _
    refine XS.iinc X148.here hx rfl (hb hby d7_35) rfl (l' := #[.val (.ref a0), .val (.int 24), .val (.ref a2), .val (.int 24), .val (.int 25), .val (.int 23), .val (.int c23)]) rfl ?_
    show Steps p.tables e below (T148.setTop (mkF m 38 #[.val (.ref a0), .val (.int 24), .val (.ref a2), .val (.int 24), .val (.int 25), .val (.int 23), .val (.int c23)] [])) _
    refine XS.iinc X148.here hx rfl (hb hby d7_38) rfl (l' := #[.val (.ref a0), .val (.int 24), .val (.ref a2), .val (.int 24), .val (.int 25), .val (.int 24), .val (.int c23)]) rfl ?_
    refine XS.goto X148.here hx rfl (pc0 := 41) (pc' := 3) rfl (hb hby d7_41) (by decide) (by decide) ?_
    refine XS.iload X148.here hx rfl (hb hby d7_3) rfl ?_
    show Steps p.tables e below (T148.setTop (mkF m 5 #[.val (.ref a0), .val (.int 24), .val (.ref a2), .val (.int 24), .val (.int 25), .val (.int 24), .val (.int c23)] [(.int 24)])) _
    refine XS.iload X148.here hx rfl (hb hby d7_5) rfl ?_
    show Steps p.tables e below (T148.setTop (mkF m 7 #[.val (.ref a0), .val (.int 24), .val (.ref a2), .val (.int 24), .val (.int 25), .val (.int 24), .val (.int c23)] [(.int 25), (.int 24)])) _
    refine XS.icmpNo X148.here hx rfl (hb hby d7_7) rfl (tlt (by decide : (24 : Int32) < (25 : Int32))).2.1 ?_
    refine XS.aloadN X148.here hx rfl (hb hby d7_10) rfl rfl ?_
    refine XS.iloadN X148.here hx rfl (hb hby d7_11) rfl ?_
    show Steps p.tables e below (T148.setTop (mkF m 12 #[.val (.ref a0), .val (.int 24), .val (.ref a2), .val (.int 24), .val (.int 25), .val (.int 24), .val (.int c23)] [(.int 24), (.ref a0)])) _
    refine X148.caload hx (j := (24 : Int32)) (v := (.int c24)) (by rw [e148]; exact Ar151.1) (State.isArrayOf_alike hZ.alike Ar151.2.1) Ar151.2.2 hin151 hat151 (g := (mkF m 12 #[.val (.ref a0), .val (.int 24), .val (.ref a2), .val (.int 24), .val (.int 25), .val (.int 24), .val (.int c23)] [(.int 24), (.ref a0)])) rfl rfl (hb hby d7_12) _ ?_
    refine XS.istore X148.here hx rfl (hb hby d7_13) rfl (l' := #[.val (.ref a0), .val (.int 24), .val (.ref a2), .val (.int 24), .val (.int 25), .val (.int 24), .val (.int c24)]) rfl ?_
    refine XS.iload X148.here hx rfl (hb hby d7_15) rfl ?_
    refine XS.sipush X148.here hx rfl (hb hby d7_17) ?_
    show Steps p.tables e below (T148.setTop (mkF m 20 #[.val (.ref a0), .val (.int 24), .val (.ref a2), .val (.int 24), .val (.int 25), .val (.int 24), .val (.int c24)] [(.int 255), (.int c24)])) _
    refine XS.icmpYes X148.here hx rfl (pc0 := 20) (pc' := 26) rfl (hb hby d7_20) rfl (flt hc_24).2.2.2 (by decide) (by decide) ?_
    refine XS.aloadN X148.here hx rfl (hb hby d7_26) rfl rfl ?_
    refine XS.iloadN X148.here hx rfl (hb hby d7_27) rfl ?_
    refine XS.iload X148.here hx rfl (hb hby d7_28) rfl ?_
    show Steps p.tables e below (T148.setTop (mkF m 30 #[.val (.ref a0), .val (.int 24), .val (.ref a2), .val (.int 24), .val (.int 25), .val (.int 24), .val (.int c24)] [(.int c24), (.int 24), (.ref a2)])) _
    refine XS.i2b X148.here hx rfl (hb hby d7_30) rfl ?_
    show Steps p.tables e below (T148.setTop (mkF m 31 #[.val (.ref a0), .val (.int 24), .val (.ref a2), .val (.int 24), .val (.int 25), .val (.int 24), .val (.int c24)] [(.int (c24.toInt8.toInt32)), (.int 24), (.ref a2)])) _
    refine st153 _ ?_
    show Steps p.tables e below (T153.setTop (mkF m 32 #[.val (.ref a0), .val (.int 24), .val (.ref a2), .val (.int 24), .val (.int 25), .val (.int 24), .val (.int c24)] [])) _
    refine XS.iinc X153.here hx rfl (hb hby d7_32) rfl (l' := #[.val (.ref a0), .val (.int 25), .val (.ref a2), .val (.int 24), .val (.int 25), .val (.int 24), .val (.int c24)]) rfl ?_
    show Steps p.tables e below (T153.setTop (mkF m 35 #[.val (.ref a0), .val (.int 25), .val (.ref a2), .val (.int 24), .val (.int 25), .val (.int 24), .val (.int c24)] [])) _
    refine XS.iinc X153.here hx rfl (hb hby d7_35) rfl (l' := #[.val (.ref a0), .val (.int 25), .val (.ref a2), .val (.int 25), .val (.int 25), .val (.int 24), .val (.int c24)]) rfl ?_
    show Steps p.tables e below (T153.setTop (mkF m 38 #[.val (.ref a0), .val (.int 25), .val (.ref a2), .val (.int 25), .val (.int 25), .val (.int 24), .val (.int c24)] [])) _
    refine XS.iinc X153.here hx rfl (hb hby d7_38) rfl (l' := #[.val (.ref a0), .val (.int 25), .val (.ref a2), .val (.int 25), .val (.int 25), .val (.int 25), .val (.int c24)]) rfl ?_
    refine XS.goto X153.here hx rfl (pc0 := 41) (pc' := 3) rfl (hb hby d7_41) (by decide) (by decide) ?_
    refine XS.iload X153.here hx rfl (hb hby d7_3) rfl ?_
    refine XS.iload X153.here hx rfl (hb hby d7_5) rfl ?_
    show Steps p.tables e below (T153.setTop (mkF m 7 #[.val (.ref a0), .val (.int 25), .val (.ref a2), .val (.int 25), .val (.int 25), .val (.int 25), .val (.int c24)] [(.int 25), (.int 25)])) _
    refine XS.icmpYes X153.here hx rfl (pc0 := 7) (pc' := 44) rfl (hb hby d7_7) rfl (flt (by decide : ¬ ((25 : Int32) < (25 : Int32)))).2.1 (by decide) (by decide) ?_
    refine XS.iload X153.here hx rfl (hb hby d7_44) rfl ?_
    show Steps p.tables e below (T153.setTop (mkF m 46 #[.val (.ref a0), .val (.int 25), .val (.ref a2), .val (.int 25), .val (.int 25), .val (.int 25), .val (.int c24)] [(.int 25)])) _
    exact retI X153 hx Bd.returns (hb hby d7_46) hrL
  · show Q_cmp25 _ _ _ _ _ _ _ _ _ _ _ _ _ _ _ _ _ _ _ _ _ _ _ _ _ _ _ _ _ _ _ _ _  T153.heap _
    rw [e153]
    exact ⟨rfl, N153, K154, V153⟩
theorem d6_0 : decode jdk_52_method_16_code 0 = .ok (.iload_n 2, 1) := by decide +kernel
theorem d6_1 : decode jdk_52_method_16_code 1 = .ok (.newarray .byte, 2) := by decide +kernel
theorem d6_3 : decode jdk_52_method_16_code 3 = .ok (.astore_n 3, 1) := by decide +kernel
theorem d6_4 : decode jdk_52_method_16_code 4 = .ok (.aload_n 0, 1) := by decide +kernel
theorem d6_5 : decode jdk_52_method_16_code 5 = .ok (.iload_n 1, 1) := by decide +kernel
theorem d6_6 : decode jdk_52_method_16_code 6 = .ok (.aload_n 3, 1) := by decide +kernel
theorem d6_7 : decode jdk_52_method_16_code 7 = .ok (.iconst 0, 1) := by decide +kernel
theorem d6_8 : decode jdk_52_method_16_code 8 = .ok (.iload_n 2, 1) := by decide +kernel
theorem d6_9 : decode jdk_52_method_16_code 9 = .ok (.invokestatic 115, 3) := by decide +kernel
theorem pd_6 : parseMethodDescriptor "([CI[BII)I" = some ⟨[(.array .char), .int, (.array .byte), .int, .int], some .int⟩ := by decide +kernel
theorem d6_12 : decode jdk_52_method_16_code 12 = .ok (.istore 4, 2) := by decide +kernel
theorem d6_14 : decode jdk_52_method_16_code 14 = .ok (.iload 4, 2) := by decide +kernel
theorem d6_16 : decode jdk_52_method_16_code 16 = .ok (.iload_n 2, 1) := by decide +kernel
theorem d6_17 : decode jdk_52_method_16_code 17 = .ok (.if_icmp .eq 40, 3) := by decide +kernel
theorem d6_57 : decode jdk_52_method_16_code 57 = .ok (.aload_n 3, 1) := by decide +kernel
theorem d6_58 : decode jdk_52_method_16_code 58 = .ok (.areturn, 1) := by decide +kernel
theorem ef_cps25 (m : MethodId) (a0 : Addr) : entryFrame m #[(.ref a0), (.int 0), (.int 25)] 6 = mkF m 0 #[.val (.ref a0), .val (.int 0), .val (.int 25), .unset, .unset, .unset] [] := by first | (simp [entryFrame, mkF, argsToLocals, Value.category]; done) | rfl
def Q_cps25 (Z : State) (a0 : Addr) (c0 : Int32) (c1 : Int32) (c2 : Int32) (c3 : Int32) (c4 : Int32) (c5 : Int32) (c6 : Int32) (c7 : Int32) (c8 : Int32) (c9 : Int32) (c10 : Int32) (c11 : Int32) (c12 : Int32) (c13 : Int32) (c14 : Int32) (c15 : Int32) (c16 : Int32) (c17 : Int32) (c18 : Int32) (c19 : Int32) (c20 : Int32) (c21 : Int32) (c22 : Int32) (c23 : Int32) (c24 : Int32) (k0 : ClassId) (h0 : Heap) (n0 : Nat) (v : Option Value) (h : Heap) (L : List Loc) : Prop := ∃ b : Addr, ∃ kb : ClassId, v = some (.ref b) ∧ Fr n0 L ∧ Keep h0 h [] ∧ h0.size ≤ b ∧ Arv Z h b kb .byte (25 : Int32) [(.int (c0.toInt8.toInt32)), (.int (c1.toInt8.toInt32)), (.int (c2.toInt8.toInt32)), (.int (c3.toInt8.toInt32)), (.int (c4.toInt8.toInt32)), (.int (c5.toInt8.toInt32)), (.int (c6.toInt8.toInt32)), (.int (c7.toInt8.toInt32)), (.int (c8.toInt8.toInt32)), (.int (c9.toInt8.toInt32)), (.int (c10.toInt8.toInt32)), (.int (c11.toInt8.toInt32)), (.int (c12.toInt8.toInt32)), (.int (c13.toInt8.toInt32)), (.int (c14.toInt8.toInt32)), (.int (c15.toInt8.toInt32)), (.int (c16.toInt8.toInt32)), (.int (c17.toInt8.toInt32)), (.int (c18.toInt8.toInt32)), (.int (c19.toInt8.toInt32)), (.int (c20.toInt8.toInt32)), (.int (c21.toInt8.toInt32)), (.int (c22.toInt8.toInt32)), (.int (c23.toInt8.toInt32)), (.int (c24.toInt8.toInt32))] (.int 0)
set_option maxRecDepth 65536 in
set_option maxHeartbeats 40000000 in
theorem cps25 (l : Launch) (Z : State) (av0 : Array Value) (hw : ∀ d ∈ tables_1, d.before av0 Z = true) (ws : List Jvm.Cond) (a0 : Addr) (c0 : Int32) (c1 : Int32) (c2 : Int32) (c3 : Int32) (c4 : Int32) (c5 : Int32) (c6 : Int32) (c7 : Int32) (c8 : Int32) (c9 : Int32) (c10 : Int32) (c11 : Int32) (c12 : Int32) (c13 : Int32) (c14 : Int32) (c15 : Int32) (c16 : Int32) (c17 : Int32) (c18 : Int32) (c19 : Int32) (c20 : Int32) (c21 : Int32) (c22 : Int32) (c23 : Int32) (c24 : Int32) (k0 : ClassId) (h0 : Heap) (n0 : Nat) (Z0 : n0 ≤ h0.size) (p0_A : Arv Z h0 a0 k0 .char (25 : Int32) [(.int c0), (.int c1), (.int c2), (.int c3), (.int c4), (.int c5), (.int c6), (.int c7), (.int c8), (.int c9), (.int c10), (.int c11), (.int c12), (.int c13), (.int c14), (.int c15), (.int c16), (.int c17), (.int c18), (.int c19), (.int c20), (.int c21), (.int c22), (.int c23), (.int c24)] (.int 0)) (hc_0 : ¬ ((255 : Int32) < c0)) (hc_1 : ¬ ((255 : Int32) < c1)) (hc_2 : ¬ ((255 : Int32) < c2)) (hc_3 : ¬ ((255 : Int32) < c3)) (hc_4 : ¬ ((255 : Int32) < c4)) (hc_5 : ¬ ((255 : Int32) < c5)) (hc_6 : ¬ ((255 : Int32) < c6)) (hc_7 : ¬ ((255 : Int32) < c7)) (hc_8 : ¬ ((255 : Int32) < c8)) (hc_9 : ¬ ((255 : Int32) < c9)) (hc_10 : ¬ ((255 : Int32) < c10)) (hc_11 : ¬ ((255 : Int32) < c11)) (hc_12 : ¬ ((255 : Int32) < c12)) (hc_13 : ¬ ((255 : Int32) < c13)) (hc_14 : ¬ ((255 : Int32) < c14)) (hc_15 : ¬ ((255 : Int32) < c15)) (hc_16 : ¬ ((255 : Int32) < c16)) (hc_17 : ¬ ((255 : Int32) < c17)) (hc_18 : ¬ ((255 : Int32) < c18)) (hc_19 : ¬ ((255 : Int32) < c19)) (hc_20 : ¬ ((255 : Int32) < c20)) (hc_21 : ¬ ((255 : Int32) < c21)) (hc_22 : ¬ ((255 : Int32) < c22)) (hc_23 : ¬ ((255 : Int32) < c23)) (hc_24 : ¬ ((255 : Int32) < c24)) :
    MetFree l (⟨"java/lang/StringUTF16", "compress", "([CII)[B"⟩ : MethodName) (head1 (Jvm.Cond.code (⟨"java/lang/StringUTF16", "compress", "([CII)[B"⟩ : MethodName) jdk_52_method_16_code 6 (some (.array .byte)) :: ws) ({ frames := 1, cells := 1, slots := 25, locals := 18 } : Room)) (fun a U => a = #[(.ref a0), (.int 0), (.int 25)] ∧ Z.Warmed39 U.vm ∧ U.heap = h0) (fun _ _ _ _ _ => True) (fun _ U o U' => ∃ v L, o = .returned v ∧ Q_cps25 Z a0 c0 c1 c2 c3 c4 c5 c6 c7 c8 c9 c10 c11 c12 c13 c14 c15 c16 c17 c18 c19 c20 c21 c22 c23 c24 k0 h0 n0 v U'.heap L ∧ FrameEnd U o U' L ({ frames := 1, cells := 1, slots := 25, locals := 18 } : Room).cells ({ frames := 1, cells := 1, slots := 25, locals := 18 } : Room).slots) := by
  refine MetFree.of_bodySF (plainFor_of_name pn_java_lang_StringUTF16) hisR ?_
  intro p e s m args below meth c s₁ Bd hml0 hP hK
  obtain ⟨rfl, hZ, hh⟩ := hP
  have hx := Bd.exec
  have hby := Bd.bytes
  have hml : c.maxLocals = 6 := hml0
  have hown : s.vm.findClass "java/lang/StringUTF16" = some m.cls := findClass_of_methodNamed Bd.named
  have hnm := (name_of_methodNamed Bd.named Bd.method).1
  have X0 : Stand p l e ({ frames := 1, cells := 1, slots := 25, locals := 18 } : Room) s m #[(.ref a0), (.int 0), (.int 25)] below meth c s₁ [] 0 0 := Stand.of_body Bd
  have e0 : s₁.heap = h0 := by rw [← hh, Bd.state]; rfl
  have N0 := Fr.nil n0
  have pre0 : ∀ tz_, Steps p.tables e below (s₁.setTop (mkF m 0 #[.val (.ref a0), .val (.int 0), .val (.int 25), .unset, .unset, .unset] [])) tz_ → Steps p.tables e below (s₁.setTop (entryFrame m #[(.ref a0), (.int 0), (.int 25)] 6)) tz_ := fun tz_ kz_ => castTop (ef_cps25 m a0) kz_
  have K0 : Keep h0 h0 [] := Keep.refl h0 []
  obtain ⟨T31, h31, k31, X31, e31, E31, A31, st31⟩ := newP X0 hx hZ (hw _ (mg (i := 27) rfl)) e0 (g := (mkF m 1 #[.val (.ref a0), .val (.int 0), .val (.int 25), .unset, .unset, .unset] [(.int 25)])) rfl (hb hby d6_1) rfl (by decide) (cap := 25) (by decide) (by decide) (by decide) (by decide)
  obtain ⟨b31, q31⟩ : ∃ z, z = h0.size := ⟨_, rfl⟩
  rw [← q31] at A31 st31
  have g_b31 : n0 ≤ b31 := Nat.le_trans (Nat.le_trans Z0 K0.1) (Nat.le_of_eq q31.symm)
  have sz_b31 : h0.size ≤ b31 := Nat.le_trans K0.1 (Nat.le_of_eq q31.symm)
  have V31 : Arv Z h31 b31 k31 .byte (25 : Int32) [(.int 0), (.int 0), (.int 0), (.int 0), (.int 0), (.int 0), (.int 0), (.int 0), (.int 0), (.int 0), (.int 0), (.int 0), (.int 0), (.int 0), (.int 0), (.int 0), (.int 0), (.int 0), (.int 0), (.int 0), (.int 0), (.int 0), (.int 0), (.int 0), (.int 0)] (.int 0) := (Arv.new A31 (by decide)).pad (pad_rep [] (.int 0) 25)
  have K32 := K0.ext E31
  have f33 := (p0_A.ext E31)
  have ne34 : a0 ≠ b31 := (Nat.ne_of_lt (Nat.lt_of_lt_of_le p0_A.lt (Nat.le_of_eq q31.symm)))
  -- pc 9: StringUTF16.compress
  obtain ⟨_, _, ⟨T35, L35, k35, n35⟩, -, X35, ⟨Lc35, hQ35, l35, y35, z35⟩, st35⟩ := Jvm.LawKit.callS X31 hx (y := (⟨"java/lang/StringUTF16", "compress", "([CI[BII)I"⟩ : MethodName)) hown (mvT hZ (hw _ (mg (i := 28) rfl))) (mvT hZ (hw _ (mg (i := 29) rfl))) (mvT hZ (hw _ (mg (i := 25) rfl))) (mvT hZ (hw _ (mg (i := 30) rfl))) (by decide) (backOf (W := 0) (cmp25 l Z av0 hw [] a0 b31 c0 c1 c2 c3 c4 c5 c6 c7 c8 c9 c10 c11 c12 c13 c14 c15 c16 c17 c18 c19 c20 c21 c22 c23 c24 k0 k31 h31 n0 (Nat.le_trans Z0 K32.1) f33 V31 ne34 g_b31 (hc_0 : ¬ ((255 : Int32) < c0)) (hc_1 : ¬ ((255 : Int32) < c1)) (hc_2 : ¬ ((255 : Int32) < c2)) (hc_3 : ¬ ((255 : Int32) < c3)) (hc_4 : ¬ ((255 : Int32) < c4)) (hc_5 : ¬ ((255 : Int32) < c5)) (hc_6 : ¬ ((255 : Int32) < c6)) (hc_7 : ¬ ((255 : Int32) < c7)) (hc_8 : ¬ ((255 : Int32) < c8)) (hc_9 : ¬ ((255 : Int32) < c9)) (hc_10 : ¬ ((255 : Int32) < c10)) (hc_11 : ¬ ((255 : Int32) < c11)) (hc_12 : ¬ ((255 : Int32) < c12)) (hc_13 : ¬ ((255 : Int32) < c13)) (hc_14 : ¬ ((255 : Int32) < c14)) (hc_15 : ¬ ((255 : Int32) < c15)) (hc_16 : ¬ ((255 : Int32) < c16)) (hc_17 : ¬ ((255 : Int32) < c17)) (hc_18 : ¬ ((255 : Int32) < c18)) (hc_19 : ¬ ((255 : Int32) < c19)) (hc_20 : ¬ ((255 : Int32) < c20)) (hc_21 : ¬ ((255 : Int32) < c21)) (hc_22 : ¬ ((255 : Int32) < c22)) (hc_23 : ¬ ((255 : Int32) < c23)) (hc_24 : ¬ ((255 : Int32) < c24))) hZ (hw _ (mg (i := 30) rfl)) (hw _ (mg (i := 25) rfl)) (by decide) (by decide)) (g := (mkF m 9 #[.val (.ref a0), .val (.int 0), .val (.int 25), .val (.ref b31), .unset, .unset] [(.int 25), (.int 0), (.ref b31), (.int 0), (.ref a0)])) rfl (by rw [hml]; rfl) (argsL := [(.ref a0), (.int 0), (.ref b31), (.int 0), (.int 25)]) (rest := []) (lenOf pd_6 rfl) rfl (by show 2 * 0 + _ ≤ _; exact Nat.le_of_eq rfl) (hb hby d6_9) (fun vmx hWx => ⟨rfl, e31, (by decide : 1 + 0 ≤ _), (by decide : 25 + 0 ≤ _)⟩)
  dsimp only [Pt.U, Pt.locs, Pt.cells, Pt.slots] at X35 l35 y35 z35 st35 hQ35
  subst l35 y35 z35
  obtain ⟨rv35, Nq35, Kq35, u35_0⟩ := hQ35
  subst rv35
  have N35 := Fr.app N0 Nq35
  have K36 := K32.trans Kq35 (allS (Or.inr sz_b31) all0)
  obtain ⟨fs, hrL, hrun, hended, hW, hsame⟩ := X35.leave (v := some (.ref b31)) (fun h => by rw [Bd.returns] at h; cases h)
  refine ⟨_, _, pre0 _ ?_, hrun, hended, _, _, rfl, ?_, ⟨_, rfl⟩, hW, hsame.mono (by decide) (by decide)⟩
  · show Steps p.tables e below (s₁.setTop (mkF m 0 #[.val (.ref a0), .val (.int 0), .val (.int 25), .unset, .unset, .unset] [])) _
    refine XS.iloadN X0.here hx rfl (hb hby d6_0) rfl ?_
    show Steps p.tables e below (s₁.setTop (mkF m 1 #[.val (.ref a0), .val (.int 0), .val (.int 25), .unset, .unset, .unset] [(.int 25)])) _
    refine st31 _ ?_
    refine XS.astoreN X31.here hx rfl (hb hby d6_3) rfl rfl (l' := #[.val (.ref a0), .val (.int 0), .val (.int 25), .val (.ref b31), .unset, .unset]) rfl ?_
    show Steps p.tables e below (T31.setTop (mkF m 4 #[.val (.ref a0), .val (.int 0), .val (.int 25), .val (.ref b31), .unset, .unset] [])) _
    refine XS.aloadN X31.here hx rfl (hb hby d6_4) rfl rfl ?_
    refine XS.iloadN X31.here hx rfl (hb hby d6_5) rfl ?_
    refine XS.aloadN X31.here hx rfl (hb hby d6_6) rfl rfl ?_
    refine XS.iconst X31.here hx rfl (hb hby d6_7) ?_
    show Steps p.tables e below (T31.setTop (mkF m 8 #[.val (.ref a0), .val (.int 0), .val (.int 25), .val (.ref b31), .unset, .unset] [(.int 0), (.ref b31), (.int 0), (.ref a0)])) _
    refine XS.iloadN X31.here hx rfl (hb hby d6_8) rfl ?_
    show Steps p.tables e below (T31.setTop (mkF m 9 #[.val (.ref a0), .val (.int 0), .val (.int 25), .val (.ref b31), .unset, .unset] [(.int 25), (.int 0), (.ref b31), (.int 0), (.ref a0)])) _
    refine st35 _ ?_
    refine XS.istore X35.here hx rfl (hb hby d6_12) rfl (l' := #[.val (.ref a0), .val (.int 0), .val (.int 25), .val (.ref b31), .val (.int 25), .unset]) rfl ?_
    refine XS.iload X35.here hx rfl (hb hby d6_14) rfl ?_
    show Steps p.tables e below (T35.setTop (mkF m 16 #[.val (.ref a0), .val (.int 0), .val (.int 25), .val (.ref b31), .val (.int 25), .unset] [(.int 25)])) _
    refine XS.iloadN X35.here hx rfl (hb hby d6_16) rfl ?_
    show Steps p.tables e below (T35.setTop (mkF m 17 #[.val (.ref a0), .val (.int 0), .val (.int 25), .val (.ref b31), .val (.int 25), .unset] [(.int 25), (.int 25)])) _
    refine XS.icmpYes X35.here hx rfl (pc0 := 17) (pc' := 57) rfl (hb hby d6_17) rfl (teq (by decide : (25 : Int32) = (25 : Int32))).1 (by decide) (by decide) ?_
    refine XS.aloadN X35.here hx rfl (hb hby d6_57) rfl rfl ?_
    show Steps p.tables e below (T35.setTop (mkF m 58 #[.val (.ref a0), .val (.int 0), .val (.int 25), .val (.ref b31), .val (.int 25), .unset] [(.ref b31)])) _
    exact retOut X35 hx Bd.returns rfl (Or.inr (Or.inr (Or.inr (Or.inr ⟨rfl, rfl, rfl⟩)))) (hb hby d6_58) hrL
  · show Q_cps25 _ _ _ _ _ _ _ _ _ _ _ _ _ _ _ _ _ _ _ _ _ _ _ _ _ _ _ _ _ _ _  T35.heap _
    exact ⟨b31, k31, rfl, N35, K36, sz_b31, u35_0⟩
theorem d8_0 : decode jdk_52_method_15_code 0 = .ok (.iload_n 1, 1) := by decide +kernel
theorem d8_1 : decode jdk_52_method_15_code 1 = .ok (.aload_n 0, 1) := by decide +kernel
theorem d8_2 : decode jdk_52_method_15_code 2 = .ok (.arraylength, 1) := by decide +kernel
theorem d8_3 : decode jdk_52_method_15_code 3 = .ok (.isub, 1) := by decide +kernel
theorem d8_4 : decode jdk_52_method_15_code 4 = .ok (.bipush 31, 2) := by decide +kernel
theorem d8_6 : decode jdk_52_method_15_code 6 = .ok (.iushr, 1) := by decide +kernel
theorem d8_7 : decode jdk_52_method_15_code 7 = .ok (.i2b, 1) := by decide +kernel
theorem d8_8 : decode jdk_52_method_15_code 8 = .ok (.ireturn, 1) := by decide +kernel
theorem ef_cfl25 (m : MethodId) (a0 : Addr) : entryFrame m #[(.ref a0), (.int 25)] 2 = mkF m 0 #[.val (.ref a0), .val (.int 25)] [] := by first | (simp [entryFrame, mkF, argsToLocals, Value.category]; done) | rfl
def Q_cfl25 (Z : State) (a0 : Addr) (vs : List Value) (k0 : ClassId) (h0 : Heap) (n0 : Nat) (v : Option Value) (h : Heap) (L : List Loc) : Prop := v = some (.int 0) ∧ Fr n0 L ∧ h = h0
set_option maxRecDepth 65536 in
set_option maxHeartbeats 40000000 in
theorem cfl25 (l : Launch) (Z : State) (av0 : Array Value) (hw : ∀ d ∈ tables_1, d.before av0 Z = true) (ws : List Jvm.Cond) (a0 : Addr) (vs : List Value) (k0 : ClassId) (h0 : Heap) (n0 : Nat) (Z0 : n0 ≤ h0.size) (p0_A : Arv Z h0 a0 k0 .byte (25 : Int32) vs (.int 0)) :
    MetFree l (⟨"java/lang/StringUTF16", "coderFromArrayLen", "([BI)B"⟩ : MethodName) (head1 (Jvm.Cond.code (⟨"java/lang/StringUTF16", "coderFromArrayLen", "([BI)B"⟩ : MethodName) jdk_52_method_15_code 2 (some .byte) :: ws) ({ frames := 0, cells := 0, slots := 0, locals := 0 } : Room)) (fun a U => a = #[(.ref a0), (.int 25)] ∧ Z.Warmed39 U.vm ∧ U.heap = h0) (fun _ _ _ _ _ => True) (fun _ U o U' => ∃ v L, o = .returned v ∧ Q_cfl25 Z a0 vs k0 h0 n0 v U'.heap L ∧ FrameEnd U o U' L ({ frames := 0, cells := 0, slots := 0, locals := 0 } : Room).cells ({ frames := 0, cells := 0, slots := 0, locals := 0 } : Room).slots) := by
  refine MetFree.of_bodySF (plainFor_of_name pn_java_lang_StringUTF16) hisR ?_
  intro p e s m args below meth c s₁ Bd hml0 hP hK
  obtain ⟨rfl, hZ, hh⟩ := hP
  have hx := Bd.exec
  have hby := Bd.bytes
  have hml : c.maxLocals = 2 := hml0
  have hown : s.vm.findClass "java/lang/StringUTF16" = some m.cls := findClass_of_methodNamed Bd.named
  have hnm := (name_of_methodNamed Bd.named Bd.method).1
  have X0 : Stand p l e ({ frames := 0, cells := 0, slots := 0, locals := 0 } : Room) s m #[(.ref a0), (.int 25)] below meth c s₁ [] 0 0 := Stand.of_body Bd
  have e0 : s₁.heap = h0 := by rw [← hh, Bd.state]; rfl
  have N0 := Fr.nil n0
  have pre0 : ∀ tz_, Steps p.tables e below (s₁.setTop (mkF m 0 #[.val (.ref a0), .val (.int 25)] [])) tz_ → Steps p.tables e below (s₁.setTop (entryFrame m #[(.ref a0), (.int 25)] 2)) tz_ := fun tz_ kz_ => castTop (ef_cfl25 m a0) kz_
  obtain ⟨cl31, Ar31, -, qs31, qn31, -, -⟩ := id p0_A
  obtain ⟨fs, hrL, hrun, hended, hW, hsame⟩ := X0.leave (v := some (.int 0)) (fun h => by rw [Bd.returns] at h; cases h)
  refine ⟨_, _, pre0 _ ?_, hrun, hended, _, _, rfl, ?_, ⟨_, rfl⟩, hW, hsame.mono (by decide) (by decide)⟩
  · show Steps p.tables e below (s₁.setTop (mkF m 0 #[.val (.ref a0), .val (.int 25)] [])) _
    refine XS.iloadN X0.here hx rfl (hb hby d8_0) rfl ?_
    refine XS.aloadN X0.here hx rfl (hb hby d8_1) rfl rfl ?_
    show Steps p.tables e below (s₁.setTop (mkF m 2 #[.val (.ref a0), .val (.int 25)] [(.ref a0), (.int 25)])) _
    refine X0.arraylength hx (by rw [e0]; exact Ar31.1) (State.isArrayOf_alike hZ.alike Ar31.2.1) (g := (mkF m 2 #[.val (.ref a0), .val (.int 25)] [(.ref a0), (.int 25)])) rfl rfl (hb hby d8_2) _ ?_
    rw [len_of qs31 qn31]
    show Steps p.tables e below (s₁.setTop (mkF m 3 #[.val (.ref a0), .val (.int 25)] [(.int 25), (.int 25)])) _
    refine XS.isub X0.here hx rfl (hb hby d8_3) rfl ?_
    show Steps p.tables e below (s₁.setTop (mkF m 4 #[.val (.ref a0), .val (.int 25)] [(.int ((25 : Int32) - (25 : Int32)))])) _
    rw [show ((25 : Int32) - (25 : Int32)) = (0 : Int32) from by decide]
    refine XS.bipush X0.here hx rfl (hb hby d8_4) ?_
    show Steps p.tables e below (s₁.setTop (mkF m 6 #[.val (.ref a0), .val (.int 25)] [(.int 31), (.int 0)])) _
    refine XS.iushr X0.here hx rfl (hb hby d8_6) rfl ?_
    show Steps p.tables e below (s₁.setTop (mkF m 7 #[.val (.ref a0), .val (.int 25)] [(.int (((0 : Int32).toUInt32 >>> ((31 : Int32) &&& 31).toUInt32).toInt32))])) _
    rw [show (((0 : Int32).toUInt32 >>> ((31 : Int32) &&& 31).toUInt32).toInt32) = (0 : Int32) from by decide]
    show Steps p.tables e below (s₁.setTop (mkF m 7 #[.val (.ref a0), .val (.int 25)] [(.int 0)])) _
    refine XS.i2b X0.here hx rfl (hb hby d8_7) rfl ?_
    show Steps p.tables e below (s₁.setTop (mkF m 8 #[.val (.ref a0), .val (.int 25)] [(.int ((0 : Int32).toInt8.toInt32))])) _
    rw [show ((0 : Int32).toInt8.toInt32) = (0 : Int32) from by decide]
    show Steps p.tables e below (s₁.setTop (mkF m 8 #[.val (.ref a0), .val (.int 25)] [(.int 0)])) _
    exact retN X0 hx (t := .byte) Bd.returns (by simp) (hb hby d8_8) hrL
  · show Q_cfl25 _ _ _ _ _ _ _  s₁.heap _
    rw [e0]
    exact ⟨rfl, N0, rfl⟩
theorem d4_0 : decode jdk_42_method_149_code 0 = .ok (.aload_n 0, 1) := by decide +kernel
theorem d4_1 : decode jdk_42_method_149_code 1 = .ok (.invokespecial 1, 3) := by decide +kernel
theorem d4_4 : decode jdk_42_method_149_code 4 = .ok (.iload_n 3, 1) := by decide +kernel
theorem d4_5 : decode jdk_42_method_149_code 5 = .ok (.ifCond .ne 22, 3) := by decide +kernel
theorem d4_27 : decode jdk_42_method_149_code 27 = .ok (.getstatic 38, 3) := by decide +kernel
theorem d4_30 : decode jdk_42_method_149_code 30 = .ok (.ifCond .eq 28, 3) := by decide +kernel
theorem d4_33 : decode jdk_42_method_149_code 33 = .ok (.aload_n 1, 1) := by decide +kernel
theorem d4_34 : decode jdk_42_method_149_code 34 = .ok (.iload_n 2, 1) := by decide +kernel
theorem d4_35 : decode jdk_42_method_149_code 35 = .ok (.iload_n 3, 1) := by decide +kernel
theorem d4_36 : decode jdk_42_method_149_code 36 = .ok (.invokestatic 177, 3) := by decide +kernel
theorem pd_5 : parseMethodDescriptor "([CII)[B" = some ⟨[(.array .char), .int, .int], some (.array .byte)⟩ := by decide +kernel
theorem d4_39 : decode jdk_42_method_149_code 39 = .ok (.astore 5, 2) := by decide +kernel
theorem d4_41 : decode jdk_42_method_149_code 41 = .ok (.aload_n 0, 1) := by decide +kernel
theorem d4_42 : decode jdk_42_method_149_code 42 = .ok (.aload 5, 2) := by decide +kernel
theorem d4_44 : decode jdk_42_method_149_code 44 = .ok (.iload_n 3, 1) := by decide +kernel
theorem d4_45 : decode jdk_42_method_149_code 45 = .ok (.invokestatic 47, 3) := by decide +kernel
theorem pd_7 : parseMethodDescriptor "([BI)B" = some ⟨[(.array .byte), .int], some .byte⟩ := by decide +kernel
theorem d4_48 : decode jdk_42_method_149_code 48 = .ok (.putfield 15, 3) := by decide +kernel
theorem d4_51 : decode jdk_42_method_149_code 51 = .ok (.aload_n 0, 1) := by decide +kernel
theorem d4_52 : decode jdk_42_method_149_code 52 = .ok (.aload 5, 2) := by decide +kernel
theorem d4_54 : decode jdk_42_method_149_code 54 = .ok (.putfield 9, 3) := by decide +kernel
theorem d4_57 : decode jdk_42_method_149_code 57 = .ok (.return_, 1) := by decide +kernel
theorem pn_java_lang_String : plainName "java/lang/String" = true := by first | (simp [plainName, overriddenIn]; done) | decide +kernel
theorem ef_si25 (m : MethodId) (a0 : Addr) (a1 : Addr) : entryFrame m #[(.ref a0), (.ref a1), (.int 0), (.int 25), .null] 6 = mkF m 0 #[.val (.ref a0), .val (.ref a1), .val (.int 0), .val (.int 25), .val .null, .unset] [] := by first | (simp [entryFrame, mkF, argsToLocals, Value.category]; done) | rfl
def Q_si25 (Z : State) (a0 : Addr) (a1 : Addr) (c0 : Int32) (c1 : Int32) (c2 : Int32) (c3 : Int32) (c4 : Int32) (c5 : Int32) (c6 : Int32) (c7 : Int32) (c8 : Int32) (c9 : Int32) (c10 : Int32) (c11 : Int32) (c12 : Int32) (c13 : Int32) (c14 : Int32) (c15 : Int32) (c16 : Int32) (c17 : Int32) (c18 : Int32) (c19 : Int32) (c20 : Int32) (c21 : Int32) (c22 : Int32) (c23 : Int32) (c24 : Int32) (k0 : ClassId) (cs : Int32) (h0 : Heap) (n0 : Nat) (v : Option Value) (h : Heap) (L : List Loc) : Prop := ∃ b : Addr, ∃ kb : ClassId, v = none ∧ Fr n0 L ∧ Keep h0 h [a0] ∧ h0.size ≤ b ∧ Exa Z h a0 "java/lang/String" ∧ Fld Z h a0 "java/lang/String" "value" "[B" (.ref b) ∧ Fld Z h a0 "java/lang/String" "coder" "B" (.int 0) ∧ Arv Z h b kb .byte (25 : Int32) [(.int (c0.toInt8.toInt32)), (.int (c1.toInt8.toInt32)), (.int (c2.toInt8.toInt32)), (.int (c3.toInt8.toInt32)), (.int (c4.toInt8.toInt32)), (.int (c5.toInt8.toInt32)), (.int (c6.toInt8.toInt32)), (.int (c7.toInt8.toInt32)), (.int (c8.toInt8.toInt32)), (.int (c9.toInt8.toInt32)), (.int (c10.toInt8.toInt32)), (.int (c11.toInt8.toInt32)), (.int (c12.toInt8.toInt32)), (.int (c13.toInt8.toInt32)), (.int (c14.toInt8.toInt32)), (.int (c15.toInt8.toInt32)), (.int (c16.toInt8.toInt32)), (.int (c17.toInt8.toInt32)), (.int (c18.toInt8.toInt32)), (.int (c19.toInt8.toInt32)), (.int (c20.toInt8.toInt32)), (.int (c21.toInt8.toInt32)), (.int (c22.toInt8.toInt32)), (.int (c23.toInt8.toInt32)), (.int (c24.toInt8.toInt32))] (.int 0)
set_option maxRecDepth 65536 in
set_option maxHeartbeats 40000000 in
theorem si25 (l : Launch) (Z : State) (av0 : Array Value) (hw : ∀ d ∈ tables_1, d.before av0 Z = true) (ws : List Jvm.Cond) (a0 : Addr) (a1 : Addr) (c0 : Int32) (c1 : Int32) (c2 : Int32) (c3 : Int32) (c4 : Int32) (c5 : Int32) (c6 : Int32) (c7 : Int32) (c8 : Int32) (c9 : Int32) (c10 : Int32) (c11 : Int32) (c12 : Int32) (c13 : Int32) (c14 : Int32) (c15 : Int32) (c16 : Int32) (c17 : Int32) (c18 : Int32) (c19 : Int32) (c20 : Int32) (c21 : Int32) (c22 : Int32) (c23 : Int32) (c24 : Int32) (k0 : ClassId) (cs : Int32) (h0 : Heap) (n0 : Nat) (Z0 : n0 ≤ h0.size) (p0_O : Old Z n0 h0) (p1_S : Sta Z Z.heap "java/lang/String" "COMPACT_STRINGS" "Z" (.int cs)) (hcs : ¬ (cs = (0 : Int32))) (p3_E : Exa Z h0 a0 "java/lang/String") (p4_F : Fld Z h0 a0 "java/lang/String" "value" "[B" .null) (p5_F : Fld Z h0 a0 "java/lang/String" "coder" "B" (.int 0)) (p6_g : n0 ≤ a0) (p7_A : Arv Z h0 a1 k0 .char (25 : Int32) [(.int c0), (.int c1), (.int c2), (.int c3), (.int c4), (.int c5), (.int c6), (.int c7), (.int c8), (.int c9), (.int c10), (.int c11), (.int c12), (.int c13), (.int c14), (.int c15), (.int c16), (.int c17), (.int c18), (.int c19), (.int c20), (.int c21), (.int c22), (.int c23), (.int c24)] (.int 0)) (p8_ne : a0 ≠ a1) (hc_0 : ¬ ((255 : Int32) < c0)) (hc_1 : ¬ ((255 : Int32) < c1)) (hc_2 : ¬ ((255 : Int32) < c2)) (hc_3 : ¬ ((255 : Int32) < c3)) (hc_4 : ¬ ((255 : Int32) < c4)) (hc_5 : ¬ ((255 : Int32) < c5)) (hc_6 : ¬ ((255 : Int32) < c6)) (hc_7 : ¬ ((255 : Int32) < c7)) (hc_8 : ¬ ((255 : Int32) < c8)) (hc_9 : ¬ ((255 : Int32) < c9)) (hc_10 : ¬ ((255 : Int32) < c10)) (hc_11 : ¬ ((255 : Int32) < c11)) (hc_12 : ¬ ((255 : Int32) < c12)) (hc_13 : ¬ ((255 : Int32) < c13)) (hc_14 : ¬ ((255 : Int32) < c14)) (hc_15 : ¬ ((255 : Int32) < c15)) (hc_16 : ¬ ((255 : Int32) < c16)) (hc_17 : ¬ ((255 : Int32) < c17)) (hc_18 : ¬ ((255 : Int32) < c18)) (hc_19 : ¬ ((255 : Int32) < c19)) (hc_20 : ¬ ((255 : Int32) < c20)) (hc_21 : ¬ ((255 : Int32) < c21)) (hc_22 : ¬ ((255 : Int32) < c22)) (hc_23 : ¬ ((255 : Int32) < c23)) (hc_24 : ¬ ((255 : Int32) < c24)) :
    MetFree l (⟨"java/lang/String", "<init>", "([CIILjava/lang/Void;)V"⟩ : MethodName) (head1 (Jvm.Cond.code (⟨"java/lang/String", "<init>", "([CIILjava/lang/Void;)V"⟩ : MethodName) jdk_42_method_149_code 6 none :: ws) ({ frames := 2, cells := 1, slots := 25, locals := 35 } : Room)) (fun a U => a = #[(.ref a0), (.ref a1), (.int 0), (.int 25), .null] ∧ Z.Warmed39 U.vm ∧ U.heap = h0) (fun _ _ _ _ _ => True) (fun _ U o U' => ∃ v L, o = .returned v ∧ Q_si25 Z a0 a1 c0 c1 c2 c3 c4 c5 c6 c7 c8 c9 c10 c11 c12 c13 c14 c15 c16 c17 c18 c19 c20 c21 c22 c23 c24 k0 cs h0 n0 v U'.heap L ∧ FrameEnd U o U' L ({ frames := 2, cells := 1, slots := 25, locals := 35 } : Room).cells ({ frames := 2, cells := 1, slots := 25, locals := 35 } : Room).slots) := by
  refine MetFree.of_bodySF (plainFor_of_name pn_java_lang_String) hisR ?_
  intro p e s m args below meth c s₁ Bd hml0 hP hK
  obtain ⟨rfl, hZ, hh⟩ := hP
  have hx := Bd.exec
  have hby := Bd.bytes
  have hml : c.maxLocals = 6 := hml0
  have hown : s.vm.findClass "java/lang/String" = some m.cls := findClass_of_methodNamed Bd.named
  have hnm := (name_of_methodNamed Bd.named Bd.method).1
  have X0 : Stand p l e ({ frames := 2, cells := 1, slots := 25, locals := 35 } : Room) s m #[(.ref a0), (.ref a1), (.int 0), (.int 25), .null] below meth c s₁ [] 0 0 := Stand.of_body Bd
  have e0 : s₁.heap = h0 := by rw [← hh, Bd.state]; rfl
  have N0 := Fr.nil n0
  have pre0 : ∀ tz_, Steps p.tables e below (s₁.setTop (mkF m 0 #[.val (.ref a0), .val (.ref a1), .val (.int 0), .val (.int 25), .val .null, .unset] [])) tz_ → Steps p.tables e below (s₁.setTop (entryFrame m #[(.ref a0), (.ref a1), (.int 0), (.int 25), .null] 6)) tz_ := fun tz_ kz_ => castTop (ef_si25 m a0 a1) kz_
  have K0 : Keep h0 h0 [a0] := Keep.refl h0 [a0]
  obtain ⟨T31, X31, e31, st31⟩ := initO X0 hx hZ hown (hw _ (mg (i := 19) rfl)) (hw _ (mg (i := 20) rfl)) (hw _ (mg (i := 21) rfl)) e0 (g := (mkF m 1 #[.val (.ref a0), .val (.ref a1), .val (.int 0), .val (.int 25), .val .null, .unset] [(.ref a0)])) rfl (by rw [hml]; rfl) rfl (hb hby d4_1) (by decide) (W := 0) (by show 2 * 0 + _ ≤ _; exact Nat.le_of_eq rfl) (by decide)
  obtain ⟨T32, X32, e32, st32⟩ := getS2 X31 hx hZ hown (host := "") (Or.inl (hw _ (mg (i := 22) rfl))) Via.refl e31 (p1_S.ext p0_O.2) (g := (mkF m 27 #[.val (.ref a0), .val (.ref a1), .val (.int 0), .val (.int 25), .val .null, .unset] [])) rfl (hb hby d4_27)
  -- pc 36: StringUTF16.compress
  obtain ⟨_, _, ⟨T33, L33, k33, n33⟩, -, X33, ⟨Lc33, hQ33, l33, y33, z33⟩, st33⟩ := Jvm.LawKit.callS X32 hx (y := (⟨"java/lang/StringUTF16", "compress", "([CII)[B"⟩ : MethodName)) hown (mvT hZ (hw _ (mg (i := 23) rfl))) (mvT hZ (hw _ (mg (i := 24) rfl))) (mvT hZ (hw _ (mg (i := 25) rfl))) (mvT hZ (hw _ (mg (i := 26) rfl))) (by decide) (backOf (W := 0) (cps25 l Z av0 hw [] a1 c0 c1 c2 c3 c4 c5 c6 c7 c8 c9 c10 c11 c12 c13 c14 c15 c16 c17 c18 c19 c20 c21 c22 c23 c24 k0 h0 n0 (own_le p0_O) p7_A (hc_0 : ¬ ((255 : Int32) < c0)) (hc_1 : ¬ ((255 : Int32) < c1)) (hc_2 : ¬ ((255 : Int32) < c2)) (hc_3 : ¬ ((255 : Int32) < c3)) (hc_4 : ¬ ((255 : Int32) < c4)) (hc_5 : ¬ ((255 : Int32) < c5)) (hc_6 : ¬ ((255 : Int32) < c6)) (hc_7 : ¬ ((255 : Int32) < c7)) (hc_8 : ¬ ((255 : Int32) < c8)) (hc_9 : ¬ ((255 : Int32) < c9)) (hc_10 : ¬ ((255 : Int32) < c10)) (hc_11 : ¬ ((255 : Int32) < c11)) (hc_12 : ¬ ((255 : Int32) < c12)) (hc_13 : ¬ ((255 : Int32) < c13)) (hc_14 : ¬ ((255 : Int32) < c14)) (hc_15 : ¬ ((255 : Int32) < c15)) (hc_16 : ¬ ((255 : Int32) < c16)) (hc_17 : ¬ ((255 : Int32) < c17)) (hc_18 : ¬ ((255 : Int32) < c18)) (hc_19 : ¬ ((255 : Int32) < c19)) (hc_20 : ¬ ((255 : Int32) < c20)) (hc_21 : ¬ ((255 : Int32) < c21)) (hc_22 : ¬ ((255 : Int32) < c22)) (hc_23 : ¬ ((255 : Int32) < c23)) (hc_24 : ¬ ((255 : Int32) < c24))) hZ (hw _ (mg (i := 26) rfl)) (hw _ (mg (i := 25) rfl)) (by decide) (by decide)) (g := (mkF m 36 #[.val (.ref a0), .val (.ref a1), .val (.int 0), .val (.int 25), .val .null, .unset] [(.int 25), (.int 0), (.ref a1)])) rfl (by rw [hml]; rfl) (argsL := [(.ref a1), (.int 0), (.int 25)]) (rest := []) (lenOf pd_5 rfl) rfl (by show 2 * 0 + _ ≤ _; exact Nat.le_of_eq rfl) (hb hby d4_36) (fun vmx hWx => ⟨rfl, e32, (by decide : 0 + 1 ≤ _), (by decide : 0 + 25 ≤ _)⟩)
  dsimp only [Pt.U, Pt.locs, Pt.cells, Pt.slots] at X33 l33 y33 z33 st33 hQ33
  subst l33 y33 z33
  obtain ⟨b_33, kb_33, rv33, Nq33, Kq33, u33_0, u33_1⟩ := hQ33
  subst rv33
  have N33 := Fr.app N0 Nq33
  have g_b_33 : n0 ≤ b_33 := Nat.le_trans (own_le p0_O) u33_0
  have sz_b_33 : h0.size ≤ b_33 := Nat.le_trans K0.1 u33_0
  have K34 := K0.trans Kq33 all0
  have O34 := p0_O.keep Kq33 all0
  -- pc 45: StringUTF16.coderFromArrayLen
  obtain ⟨_, _, ⟨T35, L35, k35, n35⟩, -, X35, ⟨Lc35, hQ35, l35, y35, z35⟩, st35⟩ := Jvm.LawKit.callS X33 hx (y := (⟨"java/lang/StringUTF16", "coderFromArrayLen", "([BI)B"⟩ : MethodName)) hown (mvT hZ (hw _ (mg (i := 31) rfl))) (mvT hZ (hw _ (mg (i := 32) rfl))) (mvT hZ (hw _ (mg (i := 25) rfl))) (mvT hZ (hw _ (mg (i := 33) rfl))) (by decide) (backOf (W := 1) (cfl25 l Z av0 hw [] b_33 [(.int (c0.toInt8.toInt32)), (.int (c1.toInt8.toInt32)), (.int (c2.toInt8.toInt32)), (.int (c3.toInt8.toInt32)), (.int (c4.toInt8.toInt32)), (.int (c5.toInt8.toInt32)), (.int (c6.toInt8.toInt32)), (.int (c7.toInt8.toInt32)), (.int (c8.toInt8.toInt32)), (.int (c9.toInt8.toInt32)), (.int (c10.toInt8.toInt32)), (.int (c11.toInt8.toInt32)), (.int (c12.toInt8.toInt32)), (.int (c13.toInt8.toInt32)), (.int (c14.toInt8.toInt32)), (.int (c15.toInt8.toInt32)), (.int (c16.toInt8.toInt32)), (.int (c17.toInt8.toInt32)), (.int (c18.toInt8.toInt32)), (.int (c19.toInt8.toInt32)), (.int (c20.toInt8.toInt32)), (.int (c21.toInt8.toInt32)), (.int (c22.toInt8.toInt32)), (.int (c23.toInt8.toInt32)), (.int (c24.toInt8.toInt32))] kb_33 T33.heap n0 (own_le O34) u33_1) hZ (hw _ (mg (i := 33) rfl)) (hw _ (mg (i := 25) rfl)) (by decide) (by decide)) (g := (mkF m 45 #[.val (.ref a0), .val (.ref a1), .val (.int 0), .val (.int 25), .val .null, .val (.ref b_33)] [(.int 25), (.ref b_33), (.ref a0)])) rfl (by rw [hml]; rfl) (argsL := [(.ref b_33), (.int 25)]) (rest := [(.ref a0)]) (lenOf pd_7 rfl) rfl (by show 2 * 0 + _ ≤ _; exact Nat.le_of_eq rfl) (hb hby d4_45) (fun vmx hWx => ⟨rfl, rfl, (by decide : 1 + 0 ≤ _), (by decide : 25 + 0 ≤ _)⟩)
  dsimp only [Pt.U, Pt.locs, Pt.cells, Pt.slots] at X35 l35 y35 z35 st35 hQ35
  subst l35 y35 z35
  obtain ⟨rv35, Nq35, Kq35⟩ := hQ35
  subst rv35
  have N35 := Fr.app N33 Nq35
  have f36 := (p5_F.keep Kq33 nin0)
  have f37 := (p3_E.keep Kq33)
  obtain ⟨T38, h38, X38, e38, W38, st38⟩ := putF X35 hx hZ hown (host := "") (Or.inl (hw _ (mg (i := 34) rfl))) Via.refl Kq35 f36 f37 (Or.inr ⟨(hw _ (mg (i := 35) rfl)), rfl, hnm⟩) (hw _ (mg (i := 10) rfl)) (ty := .byte) (by decide) rfl rfl (g := (mkF m 48 #[.val (.ref a0), .val (.ref a1), .val (.int 0), .val (.int 25), .val .null, .val (.ref b_33)] [(.int 0), (.ref a0)])) rfl rfl (hb hby d4_48)
  have Fw38 : Fld Z h38 a0 "java/lang/String" "coder" "B" (.int 0) := f36.same W38
  have N38 := Fr.snoc X38 N35 p6_g
  have K39 := K34.wr W38 (Or.inl (List.mem_of_getElem? (i := 0) rfl))
  have O39 := O34.wr W38 p6_g
  have f40 := ((p4_F.keep Kq33 nin0).other W38 (Or.inr (slot_ne (Or.inr (hw _ (mg (i := 37) rfl))) (Or.inr (hw _ (mg (i := 35) rfl))) (by decide) (t := (.array .byte)) (t' := .byte) (by decide) (by decide))))
  have f41 := (f37.wr W38)
  obtain ⟨T42, h42, X42, e42, W42, st42⟩ := putF X38 hx hZ hown (host := "") (Or.inl (hw _ (mg (i := 36) rfl))) Via.refl e38 f40 f41 (Or.inr ⟨(hw _ (mg (i := 37) rfl)), rfl, hnm⟩) (hw _ (mg (i := 10) rfl)) (ty := (.array .byte)) (by decide) rfl rfl (g := (mkF m 54 #[.val (.ref a0), .val (.ref a1), .val (.int 0), .val (.int 25), .val .null, .val (.ref b_33)] [(.ref b_33), (.ref a0)])) rfl rfl (hb hby d4_54)
  have Fw42 : Fld Z h42 a0 "java/lang/String" "value" "[B" (.ref b_33) := f40.same W42
  have N42 := Fr.snoc X42 N38 p6_g
  have K43 := K39.wr W42 (Or.inl (List.mem_of_getElem? (i := 0) rfl))
  have O43 := O39.wr W42 p6_g
  obtain ⟨fs, hrL, hrun, hended, hW, hsame⟩ := X42.leave (v := none) (fun _ => rfl)
  have f44 := (f41.wr W42)
  have f45 := (Fw38.other W42 (Or.inr (slot_ne (Or.inr (hw _ (mg (i := 35) rfl))) (Or.inr (hw _ (mg (i := 37) rfl))) (by decide) (t := .byte) (t' := (.array .byte)) (by decide) (by decide))))
  have ne46 : b_33 ≠ a0 := (Ne.symm (Nat.ne_of_lt (Nat.lt_of_lt_of_le p3_E.lt u33_0)))
  have f47 := ((u33_1.other W38 ne46).other W42 ne46)
  refine ⟨_, _, pre0 _ ?_, hrun, hended, _, _, rfl, ?_, ⟨_, rfl⟩, hW, hsame.mono (by decide) (by decide)⟩
  · show Steps p.tables e below (s₁.setTop (mkF m 0 #[.val (.ref a0), .val (.ref a1), .val (.int 0), .val (.int 25), .val .null, .unset] [])) _
    refine XS.aloadN X0.here hx rfl (hb hby d4_0) rfl rfl ?_
    show Steps p.tables e below (s₁.setTop (mkF m 1 #[.val (.ref a0), .val (.ref a1), .val (.int 0), .val (.int 25), .val .null, .unset] [(.ref a0)])) _
    refine st31 _ ?_
    refine XS.iloadN X31.here hx rfl (hb hby d4_4) rfl ?_
    show Steps p.tables e below (T31.setTop (mkF m 5 #[.val (.ref a0), .val (.ref a1), .val (.int 0), .val (.int 25), .val .null, .unset] [(.int 25)])) _
    refine XS.ifYes X31.here hx rfl (pc0 := 5) (pc' := 27) rfl (hb hby d4_5) rfl ((if0 _ _).trans (feq (by decide : ¬ ((25 : Int32) = (0 : Int32)))).2) (by decide) (by decide) ?_
    show Steps p.tables e below (T31.setTop (mkF m 27 #[.val (.ref a0), .val (.ref a1), .val (.int 0), .val (.int 25), .val .null, .unset] [])) _
    refine st32 _ ?_
    show Steps p.tables e below (T32.setTop (mkF m 30 #[.val (.ref a0), .val (.ref a1), .val (.int 0), .val (.int 25), .val .null, .unset] [(.int cs)])) _
    refine XS.ifNo X32.here hx rfl (hb hby d4_30) rfl ((if0 _ _).trans (feq hcs).1) ?_
    refine XS.aloadN X32.here hx rfl (hb hby d4_33) rfl rfl ?_
    show Steps p.tables e below (T32.setTop (mkF m 34 #[.val (.ref a0), .val (.ref a1), .val (.int 0), .val (.int 25), .val .null, .unset] [(.ref a1)])) _
    refine XS.iloadN X32.here hx rfl (hb hby d4_34) rfl ?_
    refine XS.iloadN X32.here hx rfl (hb hby d4_35) rfl ?_
    show Steps p.tables e below (T32.setTop (mkF m 36 #[.val (.ref a0), .val (.ref a1), .val (.int 0), .val (.int 25), .val .null, .unset] [(.int 25), (.int 0), (.ref a1)])) _
    refine st33 _ ?_
    refine XS.astore X33.here hx rfl (hb hby d4_39) rfl rfl (l' := #[.val (.ref a0), .val (.ref a1), .val (.int 0), .val (.int 25), .val .null, .val (.ref b_33)]) rfl ?_
    show Steps p.tables e below (T33.setTop (mkF m 41 #[.val (.ref a0), .val (.ref a1), .val (.int 0), .val (.int 25), .val .null, .val (.ref b_33)] [])) _
    refine XS.aloadN X33.here hx rfl (hb hby d4_41) rfl rfl ?_
    refine XS.aload X33.here hx rfl (hb hby d4_42) rfl rfl ?_
    refine XS.iloadN X33.here hx rfl (hb hby d4_44) rfl ?_
    show Steps p.tables e below (T33.setTop (mkF m 45 #[.val (.ref a0), .val (.ref a1), .val (.int 0), .val (.int 25), .val .null, .val (.ref b_33)] [(.int 25), (.ref b_33), (.ref a0)])) _
    refine st35 _ ?_
    show Steps p.tables e below (T35.setTop (mkF m 48 #[.val (.ref a0), .val (.ref a1), .val (.int 0), .val (.int 25), .val .null, .val (.ref b_33)] [(.int 0), (.ref a0)])) _
    refine st38 _ ?_
    refine XS.aloadN X38.here hx rfl (hb hby d4_51) rfl rfl ?_
    refine XS.aload X38.here hx rfl (hb hby d4_52) rfl rfl ?_
    show Steps p.tables e below (T38.setTop (mkF m 54 #[.val (.ref a0), .val (.ref a1), .val (.int 0), .val (.int 25), .val .null, .val (.ref b_33)] [(.ref b_33), (.ref a0)])) _
    refine st42 _ ?_
    show Steps p.tables e below (T42.setTop (mkF m 57 #[.val (.ref a0), .val (.ref a1), .val (.int 0), .val (.int 25), .val .null, .val (.ref b_33)] [])) _
    exact X42.returnOut hx Bd.returns (hb hby d4_57) hrL
  · show Q_si25 _ _ _ _ _ _ _ _ _ _ _ _ _ _ _ _ _ _ _ _ _ _ _ _ _ _ _ _ _ _ _ _ _  T42.heap _
    rw [e42]
    exact ⟨b_33, kb_33, rfl, N42, K43, sz_b_33, f44, Fw42, f45, f47⟩
theorem d3_0 : decode jdk_42_method_3_code 0 = .ok (.aload_n 0, 1) := by decide +kernel
theorem d3_1 : decode jdk_42_method_3_code 1 = .ok (.aload_n 1, 1) := by decide +kernel
theorem d3_2 : decode jdk_42_method_3_code 2 = .ok (.iconst 0, 1) := by decide +kernel
theorem d3_3 : decode jdk_42_method_3_code 3 = .ok (.aload_n 1, 1) := by decide +kernel
theorem d3_4 : decode jdk_42_method_3_code 4 = .ok (.arraylength, 1) := by decide +kernel
theorem d3_5 : decode jdk_42_method_3_code 5 = .ok (.aconst_null, 1) := by decide +kernel
theorem d3_6 : decode jdk_42_method_3_code 6 = .ok (.invokespecial 27, 3) := by decide +kernel
theorem pd_3 : parseMethodDescriptor "([CIILjava/lang/Void;)V" = some ⟨[(.array .char), .int, .int, (.object "java/lang/Void")], none⟩ := by decide +kernel
theorem d3_9 : decode jdk_42_method_3_code 9 = .ok (.return_, 1) := by decide +kernel
theorem ef_sc25 (m : MethodId) (a0 : Addr) (a1 : Addr) : entryFrame m #[(.ref a0), (.ref a1)] 2 = mkF m 0 #[.val (.ref a0), .val (.ref a1)] [] := by first | (simp [entryFrame, mkF, argsToLocals, Value.category]; done) | rfl
def Q_sc25 (Z : State) (a0 : Addr) (a1 : Addr) (c0 : Int32) (c1 : Int32) (c2 : Int32) (c3 : Int32) (c4 : Int32) (c5 : Int32) (c6 : Int32) (c7 : Int32) (c8 : Int32) (c9 : Int32) (c10 : Int32) (c11 : Int32) (c12 : Int32) (c13 : Int32) (c14 : Int32) (c15 : Int32) (c16 : Int32) (c17 : Int32) (c18 : Int32) (c19 : Int32) (c20 : Int32) (c21 : Int32) (c22 : Int32) (c23 : Int32) (c24 : Int32) (k0 : ClassId) (cs : Int32) (h0 : Heap) (n0 : Nat) (v : Option Value) (h : Heap) (L : List Loc) : Prop := ∃ b : Addr, ∃ kb : ClassId, v = none ∧ Fr n0 L ∧ Keep h0 h [a0] ∧ h0.size ≤ b ∧ Exa Z h a0 "java/lang/String" ∧ Fld Z h a0 "java/lang/String" "value" "[B" (.ref b) ∧ Fld Z h a0 "java/lang/String" "coder" "B" (.int 0) ∧ Arv Z h b kb .byte (25 : Int32) [(.int (c0.toInt8.toInt32)), (.int (c1.toInt8.toInt32)), (.int (c2.toInt8.toInt32)), (.int (c3.toInt8.toInt32)), (.int (c4.toInt8.toInt32)), (.int (c5.toInt8.toInt32)), (.int (c6.toInt8.toInt32)), (.int (c7.toInt8.toInt32)), (.int (c8.toInt8.toInt32)), (.int (c9.toInt8.toInt32)), (.int (c10.toInt8.toInt32)), (.int (c11.toInt8.toInt32)), (.int (c12.toInt8.toInt32)), (.int (c13.toInt8.toInt32)), (.int (c14.toInt8.toInt32)), (.int (c15.toInt8.toInt32)), (.int (c16.toInt8.toInt32)), (.int (c17.toInt8.toInt32)), (.int (c18.toInt8.toInt32)), (.int (c19.toInt8.toInt32)), (.int (c20.toInt8.toInt32)), (.int (c21.toInt8.toInt32)), (.int (c22.toInt8.toInt32)), (.int (c23.toInt8.toInt32)), (.int (c24.toInt8.toInt32))] (.int 0)
set_option maxRecDepth 65536 in
set_option maxHeartbeats 40000000 in
theorem sc25 (l : Launch) (Z : State) (av0 : Array Value) (hw : ∀ d ∈ tables_1, d.before av0 Z = true) (ws : List Jvm.Cond) (a0 : Addr) (a1 : Addr) (c0 : Int32) (c1 : Int32) (c2 : Int32) (c3 : Int32) (c4 : Int32) (c5 : Int32) (c6 : Int32) (c7 : Int32) (c8 : Int32) (c9 : Int32) (c10 : Int32) (c11 : Int32) (c12 : Int32) (c13 : Int32) (c14 : Int32) (c15 : Int32) (c16 : Int32) (c17 : Int32) (c18 : Int32) (c19 : Int32) (c20 : Int32) (c21 : Int32) (c22 : Int32) (c23 : Int32) (c24 : Int32) (k0 : ClassId) (cs : Int32) (h0 : Heap) (n0 : Nat) (Z0 : n0 ≤ h0.size) (p0_O : Old Z n0 h0) (p1_S : Sta Z Z.heap "java/lang/String" "COMPACT_STRINGS" "Z" (.int cs)) (hcs : ¬ (cs = (0 : Int32))) (p3_E : Exa Z h0 a0 "java/lang/String") (p4_F : Fld Z h0 a0 "java/lang/String" "value" "[B" .null) (p5_F : Fld Z h0 a0 "java/lang/String" "coder" "B" (.int 0)) (p6_g : n0 ≤ a0) (p7_A : Arv Z h0 a1 k0 .char (25 : Int32) [(.int c0), (.int c1), (.int c2), (.int c3), (.int c4), (.int c5), (.int c6), (.int c7), (.int c8), (.int c9), (.int c10), (.int c11), (.int c12), (.int c13), (.int c14), (.int c15), (.int c16), (.int c17), (.int c18), (.int c19), (.int c20), (.int c21), (.int c22), (.int c23), (.int c24)] (.int 0)) (p8_ne : a0 ≠ a1) (hc_0 : ¬ ((255 : Int32) < c0)) (hc_1 : ¬ ((255 : Int32) < c1)) (hc_2 : ¬ ((255 : Int32) < c2)) (hc_3 : ¬ ((255 : Int32) < c3)) (hc_4 : ¬ ((255 : Int32) < c4)) (hc_5 : ¬ ((255 : Int32) < c5)) (hc_6 : ¬ ((255 : Int32) < c6)) (hc_7 : ¬ ((255 : Int32) < c7)) (hc_8 : ¬ ((255 : Int32) < c8)) (hc_9 : ¬ ((255 : Int32) < c9)) (hc_10 : ¬ ((255 : Int32) < c10)) (hc_11 : ¬ ((255 : Int32) < c11)) (hc_12 : ¬ ((255 : Int32) < c12)) (hc_13 : ¬ ((255 : Int32) < c13)) (hc_14 : ¬ ((255 : Int32) < c14)) (hc_15 : ¬ ((255 : Int32) < c15)) (hc_16 : ¬ ((255 : Int32) < c16)) (hc_17 : ¬ ((255 : Int32) < c17)) (hc_18 : ¬ ((255 : Int32) < c18)) (hc_19 : ¬ ((255 : Int32) < c19)) (hc_20 : ¬ ((255 : Int32) < c20)) (hc_21 : ¬ ((255 : Int32) < c21)) (hc_22 : ¬ ((255 : Int32) < c22)) (hc_23 : ¬ ((255 : Int32) < c23)) (hc_24 : ¬ ((255 : Int32) < c24)) :
    MetFree l (⟨"java/lang/String", "<init>", "([C)V"⟩ : MethodName) (head1 (Jvm.Cond.code (⟨"java/lang/String", "<init>", "([C)V"⟩ : MethodName) jdk_42_method_3_code 2 none :: ws) ({ frames := 3, cells := 1, slots := 25, locals := 52 } : Room)) (fun a U => a = #[(.ref a0), (.ref a1)] ∧ Z.Warmed39 U.vm ∧ U.heap = h0) (fun _ _ _ _ _ => True) (fun _ U o U' => ∃ v L, o = .returned v ∧ Q_sc25 Z a0 a1 c0 c1 c2 c3 c4 c5 c6 c7 c8 c9 c10 c11 c12 c13 c14 c15 c16 c17 c18 c19 c20 c21 c22 c23 c24 k0 cs h0 n0 v U'.heap L ∧ FrameEnd U o U' L ({ frames := 3, cells := 1, slots := 25, locals := 52 } : Room).cells ({ frames := 3, cells := 1, slots := 25, locals := 52 } : Room).slots) := by
  refine MetFree.of_bodySF (plainFor_of_name pn_java_lang_String) hisR ?_
  intro p e s m args below meth c s₁ Bd hml0 hP hK
  obtain ⟨rfl, hZ, hh⟩ := hP
  have hx := Bd.exec
  have hby := Bd.bytes
  have hml : c.maxLocals = 2 := hml0
  have hown : s.vm.findClass "java/lang/String" = some m.cls := findClass_of_methodNamed Bd.named
  have hnm := (name_of_methodNamed Bd.named Bd.method).1
  have X0 : Stand p l e ({ frames := 3, cells := 1, slots := 25, locals := 52 } : Room) s m #[(.ref a0), (.ref a1)] below meth c s₁ [] 0 0 := Stand.of_body Bd
  have e0 : s₁.heap = h0 := by rw [← hh, Bd.state]; rfl
  have N0 := Fr.nil n0
  have pre0 : ∀ tz_, Steps p.tables e below (s₁.setTop (mkF m 0 #[.val (.ref a0), .val (.ref a1)] [])) tz_ → Steps p.tables e below (s₁.setTop (entryFrame m #[(.ref a0), (.ref a1)] 2)) tz_ := fun tz_ kz_ => castTop (ef_sc25 m a0 a1) kz_
  have K0 : Keep h0 h0 [a0] := Keep.refl h0 [a0]
  obtain ⟨cl31, Ar31, -, qs31, qn31, -, -⟩ := id p7_A
  -- pc 6: String.init
  obtain ⟨_, _, ⟨T32, L32, k32, n32⟩, -, X32, ⟨Lc32, hQ32, l32, y32, z32⟩, st32⟩ := X0.specialBack hx (y := (⟨"java/lang/String", "<init>", "([CIILjava/lang/Void;)V"⟩ : MethodName)) rfl hown (mvT hZ (hw _ (mg (i := 15) rfl))) (mvT hZ (hw _ (mg (i := 16) rfl))) (mvT hZ (hw _ (mg (i := 18) rfl))) (by decide) (backOf (W := 0) (si25 l Z av0 hw [] a0 a1 c0 c1 c2 c3 c4 c5 c6 c7 c8 c9 c10 c11 c12 c13 c14 c15 c16 c17 c18 c19 c20 c21 c22 c23 c24 k0 cs h0 n0 (own_le p0_O) p0_O p1_S (hcs : ¬ (cs = (0 : Int32))) p3_E p4_F p5_F p6_g p7_A p8_ne (hc_0 : ¬ ((255 : Int32) < c0)) (hc_1 : ¬ ((255 : Int32) < c1)) (hc_2 : ¬ ((255 : Int32) < c2)) (hc_3 : ¬ ((255 : Int32) < c3)) (hc_4 : ¬ ((255 : Int32) < c4)) (hc_5 : ¬ ((255 : Int32) < c5)) (hc_6 : ¬ ((255 : Int32) < c6)) (hc_7 : ¬ ((255 : Int32) < c7)) (hc_8 : ¬ ((255 : Int32) < c8)) (hc_9 : ¬ ((255 : Int32) < c9)) (hc_10 : ¬ ((255 : Int32) < c10)) (hc_11 : ¬ ((255 : Int32) < c11)) (hc_12 : ¬ ((255 : Int32) < c12)) (hc_13 : ¬ ((255 : Int32) < c13)) (hc_14 : ¬ ((255 : Int32) < c14)) (hc_15 : ¬ ((255 : Int32) < c15)) (hc_16 : ¬ ((255 : Int32) < c16)) (hc_17 : ¬ ((255 : Int32) < c17)) (hc_18 : ¬ ((255 : Int32) < c18)) (hc_19 : ¬ ((255 : Int32) < c19)) (hc_20 : ¬ ((255 : Int32) < c20)) (hc_21 : ¬ ((255 : Int32) < c21)) (hc_22 : ¬ ((255 : Int32) < c22)) (hc_23 : ¬ ((255 : Int32) < c23)) (hc_24 : ¬ ((255 : Int32) < c24))) hZ (hw _ (mg (i := 18) rfl)) (hw _ (mg (i := 11) rfl)) (by decide) (by decide)) (g := (mkF m 6 #[.val (.ref a0), .val (.ref a1)] [.null, (.int 25), (.int 0), (.ref a1), (.ref a0)])) rfl (by rw [hml]; rfl) (Steps.refl _) (a := a0) (argsL := [(.ref a1), (.int 0), (.int 25), .null]) (rest := []) (lenOf pd_3 rfl) rfl (by show 2 * 0 + _ ≤ _; exact Nat.le_of_eq rfl) (hb hby d3_6) (fun vmx hWx => ⟨rfl, e0, (by decide : 0 + 1 ≤ _), (by decide : 0 + 25 ≤ _)⟩)
  dsimp only [Pt.U, Pt.locs, Pt.cells, Pt.slots] at X32 l32 y32 z32 st32 hQ32
  subst l32 y32 z32
  obtain ⟨b_32, kb_32, rv32, Nq32, Kq32, u32_0, u32_1, u32_2, u32_3, u32_4⟩ := hQ32
  subst rv32
  have N32 := Fr.app N0 Nq32
  have g_b_32 : n0 ≤ b_32 := Nat.le_trans (own_le p0_O) u32_0
  have sz_b_32 : h0.size ≤ b_32 := Nat.le_trans K0.1 u32_0
  have K33 := K0.trans Kq32 (allS (Or.inl (List.mem_of_getElem? (i := 0) rfl)) all0)
  have O33 := p0_O.keep Kq32 (allS p6_g all0)
  obtain ⟨fs, hrL, hrun, hended, hW, hsame⟩ := X32.leave (v := none) (fun _ => rfl)
  refine ⟨_, _, pre0 _ ?_, hrun, hended, _, _, rfl, ?_, ⟨_, rfl⟩, hW, hsame.mono (by decide) (by decide)⟩
  · show Steps p.tables e below (s₁.setTop (mkF m 0 #[.val (.ref a0), .val (.ref a1)] [])) _
    refine XS.aloadN X0.here hx rfl (hb hby d3_0) rfl rfl ?_
    refine XS.aloadN X0.here hx rfl (hb hby d3_1) rfl rfl ?_
    refine XS.iconst X0.here hx rfl (hb hby d3_2) ?_
    show Steps p.tables e below (s₁.setTop (mkF m 3 #[.val (.ref a0), .val (.ref a1)] [(.int 0), (.ref a1), (.ref a0)])) _
    refine XS.aloadN X0.here hx rfl (hb hby d3_3) rfl rfl ?_
    show Steps p.tables e below (s₁.setTop (mkF m 4 #[.val (.ref a0), .val (.ref a1)] [(.ref a1), (.int 0), (.ref a1), (.ref a0)])) _
    refine X0.arraylength hx (by rw [e0]; exact Ar31.1) (State.isArrayOf_alike hZ.alike Ar31.2.1) (g := (mkF m 4 #[.val (.ref a0), .val (.ref a1)] [(.ref a1), (.int 0), (.ref a1), (.ref a0)])) rfl rfl (hb hby d3_4) _ ?_
    rw [len_of qs31 qn31]
    refine XS.aconstNull X0.here hx rfl (hb hby d3_5) ?_
    show Steps p.tables e below (s₁.setTop (mkF m 6 #[.val (.ref a0), .val (.ref a1)] [.null, (.int 25), (.int 0), (.ref a1), (.ref a0)])) _
    refine st32.trans ?_
    show Steps p.tables e below (T32.setTop (mkF m 9 #[.val (.ref a0), .val (.ref a1)] [])) _
    exact X32.returnOut hx Bd.returns (hb hby d3_9) hrL
  · show Q_sc25 _ _ _ _ _ _ _ _ _ _ _ _ _ _ _ _ _ _ _ _ _ _ _ _ _ _ _ _ _ _ _ _ _  T32.heap _
    exact ⟨b_32, kb_32, rfl, N32, K33, sz_b_32, u32_1, u32_2, u32_3, u32_4⟩
theorem d14_0 : decode jdk_42_method_152_code 0 = .ok (.getstatic 38, 3) := by decide +kernel
theorem d14_3 : decode jdk_42_method_152_code 3 = .ok (.ifCond .eq 10, 3) := by decide +kernel
theorem d14_6 : decode jdk_42_method_152_code 6 = .ok (.aload_n 0, 1) := by decide +kernel
theorem d14_7 : decode jdk_42_method_152_code 7 = .ok (.getfield 15, 3) := by decide +kernel
theorem d14_10 : decode jdk_42_method_152_code 10 = .ok (.goto 4, 3) := by decide +kernel
theorem d14_14 : decode jdk_42_method_152_code 14 = .ok (.ireturn, 1) := by decide +kernel
theorem ef_rm14 (m : MethodId) (a0 : Addr) : entryFrame m #[(.ref a0)] 1 = mkF m 0 #[.val (.ref a0)] [] := by first | (simp [entryFrame, mkF, argsToLocals, Value.category]; done) | rfl
def Q_rm14 (Z : State) (a0 : Addr) (cs : Int32) (h0 : Heap) (n0 : Nat) (v : Option Value) (h : Heap) (L : List Loc) : Prop := v = some (.int 0) ∧ Fr n0 L ∧ h = h0
set_option maxRecDepth 65536 in
set_option maxHeartbeats 40000000 in
theorem rm14 (l : Launch) (Z : State) (av0 : Array Value) (hw : ∀ d ∈ tables_1, d.before av0 Z = true) (ws : List Jvm.Cond) (a0 : Addr) (cs : Int32) (h0 : Heap) (n0 : Nat) (Z0 : n0 ≤ h0.size) (p0_O : Old Z n0 h0) (p1_S : Sta Z Z.heap "java/lang/String" "COMPACT_STRINGS" "Z" (.int cs)) (hcs : ¬ (cs = (0 : Int32))) (p3_F : Fld Z h0 a0 "java/lang/String" "coder" "B" (.int 0)) :
    MetFree l (⟨"java/lang/String", "coder", "()B"⟩ : MethodName) (head1 (Jvm.Cond.code (⟨"java/lang/String", "coder", "()B"⟩ : MethodName) jdk_42_method_152_code 1 (some .byte) :: ws) ({ frames := 0, cells := 0, slots := 0, locals := 0 } : Room)) (fun a U => a = #[(.ref a0)] ∧ Z.Warmed39 U.vm ∧ U.heap = h0) (fun _ _ _ _ _ => True) (fun _ U o U' => ∃ v L, o = .returned v ∧ Q_rm14 Z a0 cs h0 n0 v U'.heap L ∧ FrameEnd U o U' L ({ frames := 0, cells := 0, slots := 0, locals := 0 } : Room).cells ({ frames := 0, cells := 0, slots := 0, locals := 0 } : Room).slots) := by
  refine MetFree.of_bodySF (plainFor_of_name pn_java_lang_String) hisR ?_
  intro p e s m args below meth c s₁ Bd hml0 hP hK
  obtain ⟨rfl, hZ, hh⟩ := hP
  have hx := Bd.exec
  have hby := Bd.bytes
  have hml : c.maxLocals = 1 := hml0
  have hown : s.vm.findClass "java/lang/String" = some m.cls := findClass_of_methodNamed Bd.named
  have hnm := (name_of_methodNamed Bd.named Bd.method).1
  have X0 : Stand p l e ({ frames := 0, cells := 0, slots := 0, locals := 0 } : Room) s m #[(.ref a0)] below meth c s₁ [] 0 0 := Stand.of_body Bd
  have e0 : s₁.heap = h0 := by rw [← hh, Bd.state]; rfl
  have N0 := Fr.nil n0
  have pre0 : ∀ tz_, Steps p.tables e below (s₁.setTop (mkF m 0 #[.val (.ref a0)] [])) tz_ → Steps p.tables e below (s₁.setTop (entryFrame m #[(.ref a0)] 1)) tz_ := fun tz_ kz_ => castTop (ef_rm14 m a0) kz_
  obtain ⟨T31, X31, e31, st31⟩ := getS2 X0 hx hZ hown (host := "") (Or.inl (hw _ (mg (i := 22) rfl))) Via.refl e0 (p1_S.ext p0_O.2) (g := (mkF m 0 #[.val (.ref a0)] [])) rfl (hb hby d14_0)
  obtain ⟨T32, X32, e32, st32⟩ := getF X31 hx hZ hown (host := "") (Or.inl (hw _ (mg (i := 34) rfl))) Via.refl e31 p3_F (g := (mkF m 7 #[.val (.ref a0)] [(.ref a0)])) rfl rfl (hb hby d14_7)
  obtain ⟨fs, hrL, hrun, hended, hW, hsame⟩ := X32.leave (v := some (.int 0)) (fun h => by rw [Bd.returns] at h; cases h)
  refine ⟨_, _, pre0 _ ?_, hrun, hended, _, _, rfl, ?_, ⟨_, rfl⟩, hW, hsame.mono (by decide) (by decide)⟩
  · show Steps p.tables e below (s₁.setTop (mkF m 0 #[.val (.ref a0)] [])) _
    refine st31 _ ?_
    show Steps p.tables e below (T31.setTop (mkF m 3 #[.val (.ref a0)] [(.int cs)])) _
    refine XS.ifNo X31.here hx rfl (hb hby d14_3) rfl ((if0 _ _).trans (feq hcs).1) ?_
    refine XS.aloadN X31.here hx rfl (hb hby d14_6) rfl rfl ?_
    show Steps p.tables e below (T31.setTop (mkF m 7 #[.val (.ref a0)] [(.ref a0)])) _
    refine st32 _ ?_
    refine XS.goto X32.here hx rfl (pc0 := 10) (pc' := 14) rfl (hb hby d14_10) (by decide) (by decide) ?_
    show Steps p.tables e below (T32.setTop (mkF m 14 #[.val (.ref a0)] [(.int 0)])) _
    exact retN X32 hx (t := .byte) Bd.returns (by simp) (hb hby d14_14) hrL
  · show Q_rm14 _ _ _ _ _ _  T32.heap _
    rw [e32]
    exact ⟨rfl, N0, rfl⟩
theorem d15_0 : decode jdk_42_method_154_code 0 = .ok (.getstatic 38, 3) := by decide +kernel
theorem d15_3 : decode jdk_42_method_154_code 3 = .ok (.ifCond .eq 14, 3) := by decide +kernel
theorem d15_6 : decode jdk_42_method_154_code 6 = .ok (.aload_n 0, 1) := by decide +kernel
theorem d15_7 : decode jdk_42_method_154_code 7 = .ok (.getfield 15, 3) := by decide +kernel
theorem d15_10 : decode jdk_42_method_154_code 10 = .ok (.ifCond .ne 7, 3) := by decide +kernel
theorem d15_13 : decode jdk_42_method_154_code 13 = .ok (.iconst 1, 1) := by decide +kernel
theorem d15_14 : decode jdk_42_method_154_code 14 = .ok (.goto 4, 3) := by decide +kernel
theorem d15_18 : decode jdk_42_method_154_code 18 = .ok (.ireturn, 1) := by decide +kernel
theorem ef_rm15 (m : MethodId) (a0 : Addr) : entryFrame m #[(.ref a0)] 1 = mkF m 0 #[.val (.ref a0)] [] := by first | (simp [entryFrame, mkF, argsToLocals, Value.category]; done) | rfl
def Q_rm15 (Z : State) (a0 : Addr) (cs : Int32) (h0 : Heap) (n0 : Nat) (v : Option Value) (h : Heap) (L : List Loc) : Prop := v = some (.int 1) ∧ Fr n0 L ∧ h = h0
set_option maxRecDepth 65536 in
set_option maxHeartbeats 40000000 in
theorem rm15 (l : Launch) (Z : State) (av0 : Array Value) (hw : ∀ d ∈ tables_1, d.before av0 Z = true) (ws : List Jvm.Cond) (a0 : Addr) (cs : Int32) (h0 : Heap) (n0 : Nat) (Z0 : n0 ≤ h0.size) (p0_O : Old Z n0 h0) (p1_S : Sta Z Z.heap "java/lang/String" "COMPACT_STRINGS" "Z" (.int cs)) (hcs : ¬ (cs = (0 : Int32))) (p3_F : Fld Z h0 a0 "java/lang/String" "coder" "B" (.int 0)) :
    MetFree l (⟨"java/lang/String", "isLatin1", "()Z"⟩ : MethodName) (head1 (Jvm.Cond.code (⟨"java/lang/String", "isLatin1", "()Z"⟩ : MethodName) jdk_42_method_154_code 1 (some .boolean) :: ws) ({ frames := 0, cells := 0, slots := 0, locals := 0 } : Room)) (fun a U => a = #[(.ref a0)] ∧ Z.Warmed39 U.vm ∧ U.heap = h0) (fun _ _ _ _ _ => True) (fun _ U o U' => ∃ v L, o = .returned v ∧ Q_rm15 Z a0 cs h0 n0 v U'.heap L ∧ FrameEnd U o U' L ({ frames := 0, cells := 0, slots := 0, locals := 0 } : Room).cells ({ frames := 0, cells := 0, slots := 0, locals := 0 } : Room).slots) := by
  refine MetFree.of_bodySF (plainFor_of_name pn_java_lang_String) hisR ?_
  intro p e s m args below meth c s₁ Bd hml0 hP hK
  obtain ⟨rfl, hZ, hh⟩ := hP
  have hx := Bd.exec
  have hby := Bd.bytes
  have hml : c.maxLocals = 1 := hml0
  have hown : s.vm.findClass "java/lang/String" = some m.cls := findClass_of_methodNamed Bd.named
  have hnm := (name_of_methodNamed Bd.named Bd.method).1
  have X0 : Stand p l e ({ frames := 0, cells := 0, slots := 0, locals := 0 } : Room) s m #[(.ref a0)] below meth c s₁ [] 0 0 := Stand.of_body Bd
  have e0 : s₁.heap = h0 := by rw [← hh, Bd.state]; rfl
  have N0 := Fr.nil n0
  have pre0 : ∀ tz_, Steps p.tables e below (s₁.setTop (mkF m 0 #[.val (.ref a0)] [])) tz_ → Steps p.tables e below (s₁.setTop (entryFrame m #[(.ref a0)] 1)) tz_ := fun tz_ kz_ => castTop (ef_rm15 m a0) kz_
  obtain ⟨T31, X31, e31, st31⟩ := getS2 X0 hx hZ hown (host := "") (Or.inl (hw _ (mg (i := 22) rfl))) Via.refl e0 (p1_S.ext p0_O.2) (g := (mkF m 0 #[.val (.ref a0)] [])) rfl (hb hby d15_0)
  obtain ⟨T32, X32, e32, st32⟩ := getF X31 hx hZ hown (host := "") (Or.inl (hw _ (mg (i := 34) rfl))) Via.refl e31 p3_F (g := (mkF m 7 #[.val (.ref a0)] [(.ref a0)])) rfl rfl (hb hby d15_7)
  obtain ⟨fs, hrL, hrun, hended, hW, hsame⟩ := X32.leave (v := some (.int 1)) (fun h => by rw [Bd.returns] at h; cases h)
  refine ⟨_, _, pre0 _ ?_, hrun, hended, _, _, rfl, ?_, ⟨_, rfl⟩, hW, hsame.mono (by decide) (by decide)⟩
  · show Steps p.tables e below (s₁.setTop (mkF m 0 #[.val (.ref a0)] [])) _
    refine st31 _ ?_
    show Steps p.tables e below (T31.setTop (mkF m 3 #[.val (.ref a0)] [(.int cs)])) _
    refine XS.ifNo X31.here hx rfl (hb hby d15_3) rfl ((if0 _ _).trans (feq hcs).1) ?_
    refine XS.aloadN X31.here hx rfl (hb hby d15_6) rfl rfl ?_
    show Steps p.tables e below (T31.setTop (mkF m 7 #[.val (.ref a0)] [(.ref a0)])) _
    refine st32 _ ?_
    show Steps p.tables e below (T32.setTop (mkF m 10 #[.val (.ref a0)] [(.int 0)])) _
    refine XS.ifNo X32.here hx rfl (hb hby d15_10) rfl ((if0 _ _).trans (teq (by decide : (0 : Int32) = (0 : Int32))).2) ?_
    refine XS.iconst X32.here hx rfl (hb hby d15_13) ?_
    refine XS.goto X32.here hx rfl (pc0 := 14) (pc' := 18) rfl (hb hby d15_14) (by decide) (by decide) ?_
    show Steps p.tables e below (T32.setTop (mkF m 18 #[.val (.ref a0)] [(.int 1)])) _
    exact retN X32 hx (t := .boolean) Bd.returns (by simp) (hb hby d15_18) hrL
  · show Q_rm15 _ _ _ _ _ _  T32.heap _
    rw [e32]
    exact ⟨rfl, N0, rfl⟩
theorem d12_0 : decode jdk_42_method_126_code 0 = .ok (.aload_n 0, 1) := by decide +kernel
theorem d12_1 : decode jdk_42_method_126_code 1 = .ok (.areturn, 1) := by decide +kernel
theorem ef_rm12 (m : MethodId) (a0 : Addr) : entryFrame m #[(.ref a0)] 1 = mkF m 0 #[.val (.ref a0)] [] := by first | (simp [entryFrame, mkF, argsToLocals, Value.category]; done) | rfl
def Q_rm12 (Z : State) (a0 : Addr) (h0 : Heap) (n0 : Nat) (v : Option Value) (h : Heap) (L : List Loc) : Prop := v = some (.ref a0) ∧ Fr n0 L ∧ h = h0
set_option maxRecDepth 65536 in
set_option maxHeartbeats 40000000 in
theorem rm12 (l : Launch) (Z : State) (av0 : Array Value) (hw : ∀ d ∈ tables_1, d.before av0 Z = true) (ws : List Jvm.Cond) (a0 : Addr) (h0 : Heap) (n0 : Nat) (Z0 : n0 ≤ h0.size) :
    MetFree l (⟨"java/lang/String", "toString", "()Ljava/lang/String;"⟩ : MethodName) (head1 (Jvm.Cond.code (⟨"java/lang/String", "toString", "()Ljava/lang/String;"⟩ : MethodName) jdk_42_method_126_code 1 (some (.object "java/lang/String")) :: ws) ({ frames := 0, cells := 0, slots := 0, locals := 0 } : Room)) (fun a U => a = #[(.ref a0)] ∧ Z.Warmed39 U.vm ∧ U.heap = h0) (fun _ _ _ _ _ => True) (fun _ U o U' => ∃ v L, o = .returned v ∧ Q_rm12 Z a0 h0 n0 v U'.heap L ∧ FrameEnd U o U' L ({ frames := 0, cells := 0, slots := 0, locals := 0 } : Room).cells ({ frames := 0, cells := 0, slots := 0, locals := 0 } : Room).slots) := by
  refine MetFree.of_bodySF (plainFor_of_name pn_java_lang_String) hisR ?_
  intro p e s m args below meth c s₁ Bd hml0 hP hK
  obtain ⟨rfl, hZ, hh⟩ := hP
  have hx := Bd.exec
  have hby := Bd.bytes
  have hml : c.maxLocals = 1 := hml0
  have hown : s.vm.findClass "java/lang/String" = some m.cls := findClass_of_methodNamed Bd.named
  have hnm := (name_of_methodNamed Bd.named Bd.method).1
  have X0 : Stand p l e ({ frames := 0, cells := 0, slots := 0, locals := 0 } : Room) s m #[(.ref a0)] below meth c s₁ [] 0 0 := Stand.of_body Bd
  have e0 : s₁.heap = h0 := by rw [← hh, Bd.state]; rfl
  have N0 := Fr.nil n0
  have pre0 : ∀ tz_, Steps p.tables e below (s₁.setTop (mkF m 0 #[.val (.ref a0)] [])) tz_ → Steps p.tables e below (s₁.setTop (entryFrame m #[(.ref a0)] 1)) tz_ := fun tz_ kz_ => castTop (ef_rm12 m a0) kz_
  obtain ⟨fs, hrL, hrun, hended, hW, hsame⟩ := X0.leave (v := some (.ref a0)) (fun h => by rw [Bd.returns] at h; cases h)
  refine ⟨_, _, pre0 _ ?_, hrun, hended, _, _, rfl, ?_, ⟨_, rfl⟩, hW, hsame.mono (by decide) (by decide)⟩
  · show Steps p.tables e below (s₁.setTop (mkF m 0 #[.val (.ref a0)] [])) _
    refine XS.aloadN X0.here hx rfl (hb hby d12_0) rfl rfl ?_
    show Steps p.tables e below (s₁.setTop (mkF m 1 #[.val (.ref a0)] [(.ref a0)])) _
    exact retOut X0 hx Bd.returns rfl (Or.inr (Or.inr (Or.inr (Or.inr ⟨rfl, rfl, rfl⟩)))) (hb hby d12_1) hrL
  · show Q_rm12 _ _ _ _ _  s₁.heap _
    rw [e0]
    exact ⟨rfl, N0, rfl⟩
theorem d10_0 : decode prog_23_method_4_code 0 = .ok (.aload_n 0, 1) := by decide +kernel
theorem d10_1 : decode prog_23_method_4_code 1 = .ok (.getfield 29, 3) := by decide +kernel
theorem d10_4 : decode prog_23_method_4_code 4 = .ok (.areturn, 1) := by decide +kernel
theorem pn_com_example_ulinzi_ulinzi_model_OwnerName : plainName "com/example/ulinzi/ulinzi/model/OwnerName" = true := by first | (simp [plainName, overriddenIn]; done) | decide +kernel
theorem ef_rm10 (m : MethodId) (a0 : Addr) : entryFrame m #[(.ref a0)] 1 = mkF m 0 #[.val (.ref a0)] [] := by first | (simp [entryFrame, mkF, argsToLocals, Value.category]; done) | rfl
def Q_rm10 (Z : State) (a0 : Addr) (ta : Addr) (h0 : Heap) (n0 : Nat) (v : Option Value) (h : Heap) (L : List Loc) : Prop := v = some (.ref ta) ∧ Fr n0 L ∧ h = h0
set_option maxRecDepth 65536 in
set_option maxHeartbeats 40000000 in
theorem rm10 (l : Launch) (Z : State) (av0 : Array Value) (hw : ∀ d ∈ tables_1, d.before av0 Z = true) (ws : List Jvm.Cond) (a0 : Addr) (ta : Addr) (h0 : Heap) (n0 : Nat) (Z0 : n0 ≤ h0.size) (p0_F : Fld Z h0 a0 "com/example/ulinzi/ulinzi/model/OwnerName" "text" "Ljava/lang/String;" (.ref ta)) :
    MetFree l (⟨"com/example/ulinzi/ulinzi/model/OwnerName", "text", "()Ljava/lang/String;"⟩ : MethodName) (head1 (Jvm.Cond.code (⟨"com/example/ulinzi/ulinzi/model/OwnerName", "text", "()Ljava/lang/String;"⟩ : MethodName) prog_23_method_4_code 1 (some (.object "java/lang/String")) :: ws) ({ frames := 0, cells := 0, slots := 0, locals := 0 } : Room)) (fun a U => a = #[(.ref a0)] ∧ Z.Warmed39 U.vm ∧ U.heap = h0) (fun _ _ _ _ _ => True) (fun _ U o U' => ∃ v L, o = .returned v ∧ Q_rm10 Z a0 ta h0 n0 v U'.heap L ∧ FrameEnd U o U' L ({ frames := 0, cells := 0, slots := 0, locals := 0 } : Room).cells ({ frames := 0, cells := 0, slots := 0, locals := 0 } : Room).slots) := by
  refine MetFree.of_bodySF (plainFor_of_name pn_com_example_ulinzi_ulinzi_model_OwnerName) hisR ?_
  intro p e s m args below meth c s₁ Bd hml0 hP hK
  obtain ⟨rfl, hZ, hh⟩ := hP
  have hx := Bd.exec
  have hby := Bd.bytes
  have hml : c.maxLocals = 1 := hml0
  have hown : s.vm.findClass "com/example/ulinzi/ulinzi/model/OwnerName" = some m.cls := findClass_of_methodNamed Bd.named
  have hnm := (name_of_methodNamed Bd.named Bd.method).1
  have X0 : Stand p l e ({ frames := 0, cells := 0, slots := 0, locals := 0 } : Room) s m #[(.ref a0)] below meth c s₁ [] 0 0 := Stand.of_body Bd
  have e0 : s₁.heap = h0 := by rw [← hh, Bd.state]; rfl
  have N0 := Fr.nil n0
  have pre0 : ∀ tz_, Steps p.tables e below (s₁.setTop (mkF m 0 #[.val (.ref a0)] [])) tz_ → Steps p.tables e below (s₁.setTop (entryFrame m #[(.ref a0)] 1)) tz_ := fun tz_ kz_ => castTop (ef_rm10 m a0) kz_
  obtain ⟨T31, X31, e31, st31⟩ := getF X0 hx hZ hown (host := "") (Or.inl (hw _ (mg (i := 50) rfl))) Via.refl e0 p0_F (g := (mkF m 1 #[.val (.ref a0)] [(.ref a0)])) rfl rfl (hb hby d10_1)
  obtain ⟨fs, hrL, hrun, hended, hW, hsame⟩ := X31.leave (v := some (.ref ta)) (fun h => by rw [Bd.returns] at h; cases h)
  refine ⟨_, _, pre0 _ ?_, hrun, hended, _, _, rfl, ?_, ⟨_, rfl⟩, hW, hsame.mono (by decide) (by decide)⟩
  · show Steps p.tables e below (s₁.setTop (mkF m 0 #[.val (.ref a0)] [])) _
    refine XS.aloadN X0.here hx rfl (hb hby d10_0) rfl rfl ?_
    show Steps p.tables e below (s₁.setTop (mkF m 1 #[.val (.ref a0)] [(.ref a0)])) _
    refine st31 _ ?_
    show Steps p.tables e below (T31.setTop (mkF m 4 #[.val (.ref a0)] [(.ref ta)])) _
    exact retOut X31 hx Bd.returns rfl (Or.inr (Or.inr (Or.inr (Or.inr ⟨rfl, rfl, rfl⟩)))) (hb hby d10_4) hrL
  · show Q_rm10 _ _ _ _ _ _  T31.heap _
    rw [e31]
    exact ⟨rfl, N0, rfl⟩
theorem own_slot {A : Cell} {z : Int32} {vt : List Value} {ts : List Int32} (qs : A.slots.size = z.toNatClampNeg) (qh : Has A vt (.int 0)) (hts : vt = ts.map Value.int) {i : Nat} (hi : i < A.slots.size) : A.slots[i]? = some (.int (ts.getD i 0)) := by
  have h := qh i hi
  rw [h, hts]
  simp only [List.getD_eq_getElem?_getD, List.getElem?_map]
  cases ts[i]? <;> rfl
theorem own_intAt {A : Cell} {z : Int32} {vt : List Value} {ts : List Int32} (qs : A.slots.size = z.toNatClampNeg) (qh : Has A vt (.int 0)) (hts : vt = ts.map Value.int) {i : Nat} (hi : i < A.slots.size) : Jvm.Lib.StringLatin1.equals.intAt A i = ts.getD i 0 := by
  have h := own_slot qs qh hts hi
  simp [Jvm.Lib.StringLatin1.equals.intAt, h]
theorem own_bytes {Z U : State} {h : Heap} {d : Addr} {A : Cell} {z : Int32} {vt : List Value} {ts : List Int32} {n : Nat} (hal : Z.vm.Alike U.vm) (hd : U.heap[d]? = some A) (Ar : Arr Z h d A .byte) (qs : A.slots.size = z.toNatClampNeg) (qh : Has A vt (.int 0)) (hts : vt = ts.map Value.int) (hz : z.toNatClampNeg < 2 ^ 31) (hl : ts.length = n) : Jvm.Free.StrEq.SL1E.Bytes d A U :=
  ⟨hd, State.isArrayOf_alike hal Ar.2.1, Ar.2.2, by omega, fun i hi => Jvm.Lib.StringLatin1.equals.intAt_spec ⟨_, own_slot qs qh hts hi⟩⟩
theorem own_ixs {args : Array Value} {s : State} (h : (Jvm.Cond.code (⟨"java/lang/StringLatin1", "indexOf", "([BI[BII)I"⟩ : MethodName) jdk_43_method_25_code 11 (some .int)).before args s = true) : Jvm.Free.Str.IXS.tab.before args s = true := by
  have e : jdk_43_method_25_code = Jvm.Free.Str.ixsB := by decide +kernel
  rw [e] at h
  exact h
theorem own_ans {A B : Cell} {zt zp : Int32} {vt vp : List Value} {ts ps : List Int32} {n : Nat} (qsA : A.slots.size = zt.toNatClampNeg) (qhA : Has A vt (.int 0)) (hts : vt = ts.map Value.int) (hlt : ts.length = 25) (qsB : B.slots.size = zp.toNatClampNeg) (qhB : Has B vp (.int 0)) (hps : vp = ps.map Value.int) (hlp : ps.length = n)
    (ht : zt.toNatClampNeg = 25) (hp : zp.toNatClampNeg = n) (hn : 1 ≤ n ∧ n ≤ 25) :
    (Jvm.Free.Str.IXS.ans A B 25 n 0 < 0 ∧ ∀ k, k + ps.length ≤ ts.length → ¬ Mat ts ps k) ∨ (¬ Jvm.Free.Str.IXS.ans A B 25 n 0 < 0 ∧ ∃ k, k + ps.length ≤ ts.length ∧ Mat ts ps k) := by
  have hm : ∀ k, k + n ≤ 25 → (Jvm.Free.Str.matchAt (Jvm.Lib.StringLatin1.equals.intAt A) (Jvm.Lib.StringLatin1.equals.intAt B) k n = true ↔ Mat ts ps k) := fun k hk => by
    unfold Jvm.Free.Str.matchAt Mat
    rw [Jvm.Free.Str.matchFrom_spec]
    constructor
    · intro h j hj
      have := h j (Nat.zero_le _) (by omega)
      rwa [own_intAt qsA qhA hts (by omega), own_intAt qsB qhB hps (by omega)] at this
    · intro h t _ ht'
      rw [own_intAt qsA qhA hts (by omega), own_intAt qsB qhB hps (by omega)]
      exact h t (by omega)
  unfold Jvm.Free.Str.IXS.ans
  rcases Jvm.Free.Str.findFrom_spec (Jvm.Lib.StringLatin1.equals.intAt A) (Jvm.Lib.StringLatin1.equals.intAt B) n (25 + 1 - n - 0) 0 with ⟨e, h⟩ | ⟨j, -, j2, e, hj, -⟩
  · refine Or.inl ⟨by rw [e]; decide, fun k hk M => ?_⟩
    have := h k (Nat.zero_le _) (by omega)
    rw [(hm k (by omega)).mpr M] at this
    cases this
  · refine Or.inr ⟨?_, j, by omega, (hm j (by omega)).mp hj⟩
    rw [e, Int32.lt_iff_toInt_lt, Int32.toInt_ofNat_small (by omega)]
    have e0 : (0 : Int32).toInt = 0 := by decide
    rw [e0]; omega

theorem d16_0 : decode jdk_43_method_24_code 0 = .ok (.aload_n 1, 1) := by decide +kernel
theorem d16_1 : decode jdk_43_method_24_code 1 = .ok (.arraylength, 1) := by decide +kernel
theorem d16_2 : decode jdk_43_method_24_code 2 = .ok (.ifCond .ne 5, 3) := by decide +kernel
theorem d16_7 : decode jdk_43_method_24_code 7 = .ok (.aload_n 0, 1) := by decide +kernel
theorem d16_8 : decode jdk_43_method_24_code 8 = .ok (.arraylength, 1) := by decide +kernel
theorem d16_9 : decode jdk_43_method_24_code 9 = .ok (.ifCond .ne 5, 3) := by decide +kernel
theorem d16_14 : decode jdk_43_method_24_code 14 = .ok (.aload_n 0, 1) := by decide +kernel
theorem d16_15 : decode jdk_43_method_24_code 15 = .ok (.aload_n 0, 1) := by decide +kernel
theorem d16_16 : decode jdk_43_method_24_code 16 = .ok (.arraylength, 1) := by decide +kernel
theorem d16_17 : decode jdk_43_method_24_code 17 = .ok (.aload_n 1, 1) := by decide +kernel
theorem d16_18 : decode jdk_43_method_24_code 18 = .ok (.aload_n 1, 1) := by decide +kernel
theorem d16_19 : decode jdk_43_method_24_code 19 = .ok (.arraylength, 1) := by decide +kernel
theorem d16_20 : decode jdk_43_method_24_code 20 = .ok (.iconst 0, 1) := by decide +kernel
theorem d16_21 : decode jdk_43_method_24_code 21 = .ok (.invokestatic 99, 3) := by decide +kernel
theorem pd_15 : parseMethodDescriptor "([BI[BII)I" = some ⟨[(.array .byte), .int, (.array .byte), .int, .int], some .int⟩ := by decide +kernel
theorem d16_24 : decode jdk_43_method_24_code 24 = .ok (.ireturn, 1) := by decide +kernel
theorem pn_java_lang_StringLatin1 : plainName "java/lang/StringLatin1" = true := by first | (simp [plainName, overriddenIn]; done) | decide +kernel
theorem ef_ix2_9 (m : MethodId) (a0 : Addr) (a1 : Addr) : entryFrame m #[(.ref a0), (.ref a1)] 2 = mkF m 0 #[.val (.ref a0), .val (.ref a1)] [] := by first | (simp [entryFrame, mkF, argsToLocals, Value.category]; done) | rfl
def Q_ix2_9 (Z : State) (a0 : Addr) (a1 : Addr) (ts : List Int32) (ps : List Int32) (vt : List Value) (vp : List Value) (ka : ClassId) (kb : ClassId) (h0 : Heap) (n0 : Nat) (v : Option Value) (h : Heap) (L : List Loc) : Prop := ∃ r : Int32, v = some (.int r) ∧ Fr n0 L ∧ h = h0 ∧ ((r < 0 ∧ ∀ k, k + ps.length ≤ ts.length → ¬ Mat ts ps k) ∨ (¬ r < 0 ∧ ∃ k, k + ps.length ≤ ts.length ∧ Mat ts ps k))
set_option maxRecDepth 65536 in
set_option maxHeartbeats 40000000 in
theorem ix2_9 (l : Launch) (Z : State) (av0 : Array Value) (hw : ∀ d ∈ tables_1, d.before av0 Z = true) (ws : List Jvm.Cond) (a0 : Addr) (a1 : Addr) (ts : List Int32) (ps : List Int32) (vt : List Value) (vp : List Value) (ka : ClassId) (kb : ClassId) (h0 : Heap) (n0 : Nat) (Z0 : n0 ≤ h0.size) (p0_A : Arv Z h0 a0 ka .byte (25 : Int32) vt (.int 0)) (p1_A : Arv Z h0 a1 kb .byte (9 : Int32) vp (.int 0)) (hts : vt = ts.map Value.int) (hlt : ts.length = 25) (hps : vp = ps.map Value.int) (hlp : ps.length = 9) :
    MetFree l (⟨"java/lang/StringLatin1", "indexOf", "([B[B)I"⟩ : MethodName) (head1 (Jvm.Cond.code (⟨"java/lang/StringLatin1", "indexOf", "([B[B)I"⟩ : MethodName) jdk_43_method_24_code 2 (some .int) :: ws) ({ frames := 2, cells := 0, slots := 0, locals := 82 } : Room)) (fun a U => a = #[(.ref a0), (.ref a1)] ∧ Z.Warmed39 U.vm ∧ U.heap = h0) (fun _ _ _ _ _ => True) (fun _ U o U' => ∃ v L, o = .returned v ∧ Q_ix2_9 Z a0 a1 ts ps vt vp ka kb h0 n0 v U'.heap L ∧ FrameEnd U o U' L ({ frames := 2, cells := 0, slots := 0, locals := 82 } : Room).cells ({ frames := 2, cells := 0, slots := 0, locals := 82 } : Room).slots) := by
  refine MetFree.of_bodySF (plainFor_of_name pn_java_lang_StringLatin1) hisR ?_
  intro p e s m args below meth c s₁ Bd hml0 hP hK
  obtain ⟨rfl, hZ, hh⟩ := hP
  have hx := Bd.exec
  have hby := Bd.bytes
  have hml : c.maxLocals = 2 := hml0
  have hown : s.vm.findClass "java/lang/StringLatin1" = some m.cls := findClass_of_methodNamed Bd.named
  have hnm := (name_of_methodNamed Bd.named Bd.method).1
  have X0 : Stand p l e ({ frames := 2, cells := 0, slots := 0, locals := 82 } : Room) s m #[(.ref a0), (.ref a1)] below meth c s₁ [] 0 0 := Stand.of_body Bd
  have e0 : s₁.heap = h0 := by rw [← hh, Bd.state]; rfl
  have N0 := Fr.nil n0
  have pre0 : ∀ tz_, Steps p.tables e below (s₁.setTop (mkF m 0 #[.val (.ref a0), .val (.ref a1)] [])) tz_ → Steps p.tables e below (s₁.setTop (entryFrame m #[(.ref a0), (.ref a1)] 2)) tz_ := fun tz_ kz_ => castTop (ef_ix2_9 m a0 a1) kz_
  obtain ⟨cl31, Ar31, -, qs31, qn31, -, -⟩ := id p1_A
  obtain ⟨cl32, Ar32, -, qs32, qn32, -, -⟩ := id p0_A
  obtain ⟨cl33, Ar33, -, qs33, qn33, -, -⟩ := id p0_A
  obtain ⟨cl34, Ar34, -, qs34, qn34, -, -⟩ := id p1_A
  obtain ⟨clA, ArA, -, qsA, qnA, qhA, -⟩ := id p0_A
  obtain ⟨clB, ArB, -, qsB, qnB, qhB, -⟩ := id p1_A
  have hPx : ∀ vmx, s.WarmedH vmx → Jvm.Free.Str.IXS.P a0 clA 25 a1 clB 9 0 #[(.ref a0), (.int (25 : Int32)), (.ref a1), (.int (9 : Int32)), (.int (0 : Int32))] (s₁.setVm vmx) := fun vmx hWx => ⟨rfl, own_bytes (wtrans hZ hWx).alike (by show s₁.heap[a0]? = _; rw [e0]; exact ArA.1) ArA qsA qhA hts (by decide) hlt, own_bytes (wtrans hZ hWx).alike (by show s₁.heap[a1]? = _; rw [e0]; exact ArB.1) ArB qsB qhB hps (by decide) hlp, by rw [qsA]; decide, by decide, by decide, by rw [qsB]; decide, by decide⟩
  obtain ⟨_, vm35, ⟨T35, L35, k35, n35⟩, hW35, X35, ⟨⟨hh35, hL35, hc35, hn35⟩, hv35⟩, st35⟩ := Jvm.LawKit.callS X0 hx (y := (⟨"java/lang/StringLatin1", "indexOf", "([BI[BII)I"⟩ : MethodName)) hown (mvT hZ (hw _ (mg (i := 85) rfl))) (mvT hZ (hw _ (mg (i := 86) rfl))) (mvT hZ (hw _ (mg (i := 83) rfl))) (mvT hZ (hw _ (mg (i := 87) rfl))) (by decide) (Jvm.Free.Str.IXS.pays (l := l) (W := 0) (by decide) (by decide) (own_ixs (mvT hZ (hw _ (mg (i := 87) rfl)))) (mvT hZ (hw _ (mg (i := 83) rfl)))) (g := (mkF m 21 #[.val (.ref a0), .val (.ref a1)] [(.int 0), (.int 9), (.ref a1), (.int 25), (.ref a0)])) rfl (by rw [hml]; rfl) (argsL := [(.ref a0), (.int 25), (.ref a1), (.int 9), (.int 0)]) (rest := []) (lenOf pd_15 rfl) rfl (by show 2 * 0 + _ ≤ _; exact Nat.le_of_eq rfl) (hb hby d16_21) (fun vmx hWx => ⟨Nat.zero_le _, Nat.zero_le _, (a0, clA, 25, a1, clB, 9, 0), hPx vmx hWx⟩)
  dsimp only [Pt.U, Pt.locs, Pt.cells, Pt.slots] at X35 hh35 hL35 hc35 hn35 hv35 st35
  subst hL35 hc35 hn35
  have hvv := hv35 (a0, clA, 25, a1, clB, 9, 0) (hPx vm35 hW35)
  subst hvv
  have E35 : T35.heap = h0 := hh35.trans e0
  obtain ⟨r, hr0⟩ : ∃ r, r = Jvm.Free.Str.IXS.ans clA clB 25 9 0 := ⟨_, rfl⟩
  have hr : (r < 0 ∧ ∀ k, k + ps.length ≤ ts.length → ¬ Mat ts ps k) ∨ (¬ r < 0 ∧ ∃ k, k + ps.length ≤ ts.length ∧ Mat ts ps k) := by rw [hr0]; exact own_ans qsA qhA hts hlt qsB qhB hps hlp (by decide) (by decide) (by decide)
  rw [← hr0] at st35
  have pre36 : ∀ tz_, Steps p.tables e below (T35.setTop (mkF m 24 #[.val (.ref a0), .val (.ref a1)] [(.int r)])) tz_ → Steps p.tables e below (s₁.setTop (entryFrame m #[(.ref a0), (.ref a1)] 2)) tz_ := fun tz_ kk => pre0 tz_ (by
    show Steps p.tables e below (s₁.setTop (mkF m 0 #[.val (.ref a0), .val (.ref a1)] [])) _
    refine XS.aloadN X0.here hx rfl (hb hby d16_0) rfl rfl ?_
    show Steps p.tables e below (s₁.setTop (mkF m 1 #[.val (.ref a0), .val (.ref a1)] [(.ref a1)])) _
    refine X0.arraylength hx (by rw [e0]; exact Ar31.1) (State.isArrayOf_alike hZ.alike Ar31.2.1) (g := (mkF m 1 #[.val (.ref a0), .val (.ref a1)] [(.ref a1)])) rfl rfl (hb hby d16_1) _ ?_
    rw [len_of qs31 qn31]
    show Steps p.tables e below (s₁.setTop (mkF m 2 #[.val (.ref a0), .val (.ref a1)] [(.int 9)])) _
    refine XS.ifYes X0.here hx rfl (pc0 := 2) (pc' := 7) rfl (hb hby d16_2) rfl ((if0 _ _).trans (feq (by decide : ¬ ((9 : Int32) = (0 : Int32)))).2) (by decide) (by decide) ?_
    show Steps p.tables e below (s₁.setTop (mkF m 7 #[.val (.ref a0), .val (.ref a1)] [])) _
    refine XS.aloadN X0.here hx rfl (hb hby d16_7) rfl rfl ?_
    show Steps p.tables e below (s₁.setTop (mkF m 8 #[.val (.ref a0), .val (.ref a1)] [(.ref a0)])) _
    refine X0.arraylength hx (by rw [e0]; exact Ar32.1) (State.isArrayOf_alike hZ.alike Ar32.2.1) (g := (mkF m 8 #[.val (.ref a0), .val (.ref a1)] [(.ref a0)])) rfl rfl (hb hby d16_8) _ ?_
    rw [len_of qs32 qn32]
    show Steps p.tables e below (s₁.setTop (mkF m 9 #[.val (.ref a0), .val (.ref a1)] [(.int 25)])) _
    refine XS.ifYes X0.here hx rfl (pc0 := 9) (pc' := 14) rfl (hb hby d16_9) rfl ((if0 _ _).trans (feq (by decide : ¬ ((25 : Int32) = (0 : Int32)))).2) (by decide) (by decide) ?_
    refine XS.aloadN X0.here hx rfl (hb hby d16_14) rfl rfl ?_
    show Steps p.tables e below (s₁.setTop (mkF m 15 #[.val (.ref a0), .val (.ref a1)] [(.ref a0)])) _
    refine XS.aloadN X0.here hx rfl (hb hby d16_15) rfl rfl ?_
    show Steps p.tables e below (s₁.setTop (mkF m 16 #[.val (.ref a0), .val (.ref a1)] [(.ref a0), (.ref a0)])) _
    refine X0.arraylength hx (by rw [e0]; exact Ar33.1) (State.isArrayOf_alike hZ.alike Ar33.2.1) (g := (mkF m 16 #[.val (.ref a0), .val (.ref a1)] [(.ref a0), (.ref a0)])) rfl rfl (hb hby d16_16) _ ?_
    rw [len_of qs33 qn33]
    refine XS.aloadN X0.here hx rfl (hb hby d16_17) rfl rfl ?_
    refine XS.aloadN X0.here hx rfl (hb hby d16_18) rfl rfl ?_
    show Steps p.tables e below (s₁.setTop (mkF m 19 #[.val (.ref a0), .val (.ref a1)] [(.ref a1), (.ref a1), (.int 25), (.ref a0)])) _
    refine X0.arraylength hx (by rw [e0]; exact Ar34.1) (State.isArrayOf_alike hZ.alike Ar34.2.1) (g := (mkF m 19 #[.val (.ref a0), .val (.ref a1)] [(.ref a1), (.ref a1), (.int 25), (.ref a0)])) rfl rfl (hb hby d16_19) _ ?_
    rw [len_of qs34 qn34]
    refine XS.iconst X0.here hx rfl (hb hby d16_20) ?_
    show Steps p.tables e below (s₁.setTop (mkF m 21 #[.val (.ref a0), .val (.ref a1)] [(.int 0), (.int 9), (.ref a1), (.int 25), (.ref a0)])) _
    refine st35 _ ?_
    exact kk)
  obtain ⟨fs, hrL, hrun, hended, hW, hsame⟩ := X35.leave (v := some (.int r)) (fun h => by rw [Bd.returns] at h; cases h)
  refine ⟨_, _, pre36 _ ?_, hrun, hended, _, _, rfl, ?_, ⟨_, rfl⟩, hW, hsame.mono (by decide) (by decide)⟩
  · show Steps p.tables e below (T35.setTop (mkF m 24 #[.val (.ref a0), .val (.ref a1)] [(.int r)])) _
    exact retI X35 hx Bd.returns (hb hby d16_24) hrL
  · show Q_ix2_9 _ _ _ _ _ _ _ _ _ _ _ _  T35.heap _
    rw [E35]
    exact ⟨r, rfl, N0, rfl, hr⟩
theorem d13_0 : decode jdk_42_method_84_code 0 = .ok (.aload_n 0, 1) := by decide +kernel
theorem d13_1 : decode jdk_42_method_84_code 1 = .ok (.invokevirtual 335, 3) := by decide +kernel
theorem pd_12 : parseMethodDescriptor "()B" = some ⟨[], some .byte⟩ := by decide +kernel
theorem d13_4 : decode jdk_42_method_84_code 4 = .ok (.istore_n 2, 1) := by decide +kernel
theorem d13_5 : decode jdk_42_method_84_code 5 = .ok (.iload_n 2, 1) := by decide +kernel
theorem d13_6 : decode jdk_42_method_84_code 6 = .ok (.aload_n 1, 1) := by decide +kernel
theorem d13_7 : decode jdk_42_method_84_code 7 = .ok (.invokevirtual 335, 3) := by decide +kernel
theorem d13_10 : decode jdk_42_method_84_code 10 = .ok (.if_icmp .ne 36, 3) := by decide +kernel
theorem d13_13 : decode jdk_42_method_84_code 13 = .ok (.aload_n 0, 1) := by decide +kernel
theorem d13_14 : decode jdk_42_method_84_code 14 = .ok (.invokevirtual 492, 3) := by decide +kernel
theorem pd_13 : parseMethodDescriptor "()Z" = some ⟨[], some .boolean⟩ := by decide +kernel
theorem d13_17 : decode jdk_42_method_84_code 17 = .ok (.ifCond .eq 17, 3) := by decide +kernel
theorem d13_20 : decode jdk_42_method_84_code 20 = .ok (.aload_n 0, 1) := by decide +kernel
theorem d13_21 : decode jdk_42_method_84_code 21 = .ok (.getfield 9, 3) := by decide +kernel
theorem d13_24 : decode jdk_42_method_84_code 24 = .ok (.aload_n 1, 1) := by decide +kernel
theorem d13_25 : decode jdk_42_method_84_code 25 = .ok (.getfield 9, 3) := by decide +kernel
theorem d13_28 : decode jdk_42_method_84_code 28 = .ok (.invokestatic 647, 3) := by decide +kernel
theorem pd_14 : parseMethodDescriptor "([B[B)I" = some ⟨[(.array .byte), (.array .byte)], some .int⟩ := by decide +kernel
theorem d13_31 : decode jdk_42_method_84_code 31 = .ok (.goto 14, 3) := by decide +kernel
theorem d13_45 : decode jdk_42_method_84_code 45 = .ok (.ireturn, 1) := by decide +kernel
theorem ef_six_9 (m : MethodId) (a0 : Addr) (a1 : Addr) : entryFrame m #[(.ref a0), (.ref a1)] 3 = mkF m 0 #[.val (.ref a0), .val (.ref a1), .unset] [] := by first | (simp [entryFrame, mkF, argsToLocals, Value.category]; done) | rfl
def Q_six_9 (Z : State) (a0 : Addr) (a1 : Addr) (ts : List Int32) (ps : List Int32) (vt : List Value) (vp : List Value) (ka : ClassId) (kb : ClassId) (va : Addr) (vb : Addr) (cs : Int32) (h0 : Heap) (n0 : Nat) (v : Option Value) (h : Heap) (L : List Loc) : Prop := ∃ r : Int32, v = some (.int r) ∧ Fr n0 L ∧ h = h0 ∧ ((r < 0 ∧ ∀ k, k + ps.length ≤ ts.length → ¬ Mat ts ps k) ∨ (¬ r < 0 ∧ ∃ k, k + ps.length ≤ ts.length ∧ Mat ts ps k))
set_option maxRecDepth 65536 in
set_option maxHeartbeats 40000000 in
theorem six_9 (l : Launch) (Z : State) (av0 : Array Value) (hw : ∀ d ∈ tables_1, d.before av0 Z = true) (ws : List Jvm.Cond) (a0 : Addr) (a1 : Addr) (ts : List Int32) (ps : List Int32) (vt : List Value) (vp : List Value) (ka : ClassId) (kb : ClassId) (va : Addr) (vb : Addr) (cs : Int32) (h0 : Heap) (n0 : Nat) (Z0 : n0 ≤ h0.size) (p0_O : Old Z n0 h0) (p1_S : Sta Z Z.heap "java/lang/String" "COMPACT_STRINGS" "Z" (.int cs)) (hcs : ¬ (cs = (0 : Int32))) (p3_F : Fld Z h0 a0 "java/lang/String" "coder" "B" (.int 0)) (p4_F : Fld Z h0 a0 "java/lang/String" "value" "[B" (.ref va)) (p5_E : Exa Z h0 a0 "java/lang/String") (p6_F : Fld Z h0 a1 "java/lang/String" "coder" "B" (.int 0)) (p7_F : Fld Z h0 a1 "java/lang/String" "value" "[B" (.ref vb)) (p8_E : Exa Z h0 a1 "java/lang/String") (p9_A : Arv Z h0 va ka .byte (25 : Int32) vt (.int 0)) (p10_A : Arv Z h0 vb kb .byte (9 : Int32) vp (.int 0)) (hts : vt = ts.map Value.int) (hlt : ts.length = 25) (hps : vp = ps.map Value.int) (hlp : ps.length = 9) :
    MetFree l (⟨"java/lang/String", "indexOf", "(Ljava/lang/String;)I"⟩ : MethodName) (head1 (Jvm.Cond.code (⟨"java/lang/String", "indexOf", "(Ljava/lang/String;)I"⟩ : MethodName) jdk_42_method_84_code 3 (some .int) :: ws) ({ frames := 3, cells := 0, slots := 0, locals := 95 } : Room)) (fun a U => a = #[(.ref a0), (.ref a1)] ∧ Z.Warmed39 U.vm ∧ U.heap = h0) (fun _ _ _ _ _ => True) (fun _ U o U' => ∃ v L, o = .returned v ∧ Q_six_9 Z a0 a1 ts ps vt vp ka kb va vb cs h0 n0 v U'.heap L ∧ FrameEnd U o U' L ({ frames := 3, cells := 0, slots := 0, locals := 95 } : Room).cells ({ frames := 3, cells := 0, slots := 0, locals := 95 } : Room).slots) := by
  refine MetFree.of_bodySF (plainFor_of_name pn_java_lang_String) hisR ?_
  intro p e s m args below meth c s₁ Bd hml0 hP hK
  obtain ⟨rfl, hZ, hh⟩ := hP
  have hx := Bd.exec
  have hby := Bd.bytes
  have hml : c.maxLocals = 3 := hml0
  have hown : s.vm.findClass "java/lang/String" = some m.cls := findClass_of_methodNamed Bd.named
  have hnm := (name_of_methodNamed Bd.named Bd.method).1
  have X0 : Stand p l e ({ frames := 3, cells := 0, slots := 0, locals := 95 } : Room) s m #[(.ref a0), (.ref a1)] below meth c s₁ [] 0 0 := Stand.of_body Bd
  have e0 : s₁.heap = h0 := by rw [← hh, Bd.state]; rfl
  have N0 := Fr.nil n0
  have pre0 : ∀ tz_, Steps p.tables e below (s₁.setTop (mkF m 0 #[.val (.ref a0), .val (.ref a1), .unset] [])) tz_ → Steps p.tables e below (s₁.setTop (entryFrame m #[(.ref a0), (.ref a1)] 3)) tz_ := fun tz_ kz_ => castTop (ef_six_9 m a0 a1) kz_
  -- pc 1: String.coder
  obtain ⟨cq31, kq31, q31a, q31b, q31c⟩ := isOf hZ e0 p5_E
  obtain ⟨_, _, ⟨T31, L31, k31, n31⟩, -, X31, ⟨Lc31, hQ31, l31, y31, z31⟩, st31⟩ := X0.virtualBack hx (y := (⟨"java/lang/String", "coder", "()B"⟩ : MethodName)) (z := (⟨"java/lang/String", "coder", "()B"⟩ : MethodName)) hown (mvT hZ (hw _ (mg (i := 71) rfl))) (mvT hZ (hw _ (mg (i := 72) rfl))) (notFace_of_selects (args := #[]) (mvT hZ (hw _ (mg (i := 74) rfl)))) (mvT hZ (hw _ (mg (i := 74) rfl))) (mvT hZ (hw _ (mg (i := 73) rfl))) (by decide) (backOf (W := 0) (rm14 l Z av0 hw [] a0 cs h0 n0 (own_le p0_O) p0_O p1_S (hcs : ¬ (cs = (0 : Int32))) p3_F) hZ (hw _ (mg (i := 75) rfl)) (hw _ (mg (i := 11) rfl)) (by decide) (by decide)) q31a q31c (g := (mkF m 1 #[.val (.ref a0), .val (.ref a1), .unset] [(.ref a0)])) rfl (by rw [hml]; rfl) (Steps.refl _) (argsL := []) (rest := []) (lenOf pd_12 rfl) rfl (by show 2 * 0 + _ ≤ _; exact Nat.le_of_eq rfl) (hb hby d13_1) (fun vmx hWx => ⟨rfl, e0, (by decide : 0 + 0 ≤ _), (by decide : 0 + 0 ≤ _)⟩)
  dsimp only [Pt.U, Pt.locs, Pt.cells, Pt.slots] at X31 l31 y31 z31 st31 hQ31
  subst l31 y31 z31
  obtain ⟨rv31, Nq31, Kq31⟩ := hQ31
  subst rv31
  have N31 := Fr.app N0 Nq31
  -- pc 7: String.coder
  obtain ⟨cq32, kq32, q32a, q32b, q32c⟩ := isOf hZ Kq31 p8_E
  obtain ⟨_, _, ⟨T32, L32, k32, n32⟩, -, X32, ⟨Lc32, hQ32, l32, y32, z32⟩, st32⟩ := X31.virtualBack hx (y := (⟨"java/lang/String", "coder", "()B"⟩ : MethodName)) (z := (⟨"java/lang/String", "coder", "()B"⟩ : MethodName)) hown (mvT hZ (hw _ (mg (i := 71) rfl))) (mvT hZ (hw _ (mg (i := 72) rfl))) (notFace_of_selects (args := #[]) (mvT hZ (hw _ (mg (i := 74) rfl)))) (mvT hZ (hw _ (mg (i := 74) rfl))) (mvT hZ (hw _ (mg (i := 73) rfl))) (by decide) (backOf (W := 1) (rm14 l Z av0 hw [] a1 cs h0 n0 (own_le p0_O) p0_O p1_S (hcs : ¬ (cs = (0 : Int32))) p6_F) hZ (hw _ (mg (i := 75) rfl)) (hw _ (mg (i := 11) rfl)) (by decide) (by decide)) q32a q32c (g := (mkF m 7 #[.val (.ref a0), .val (.ref a1), .val (.int 0)] [(.ref a1), (.int 0)])) rfl (by rw [hml]; rfl) (Steps.refl _) (argsL := []) (rest := [(.int 0)]) (lenOf pd_12 rfl) rfl (by show 2 * 0 + _ ≤ _; exact Nat.le_of_eq rfl) (hb hby d13_7) (fun vmx hWx => ⟨rfl, Kq31, (by decide : 0 + 0 ≤ _), (by decide : 0 + 0 ≤ _)⟩)
  dsimp only [Pt.U, Pt.locs, Pt.cells, Pt.slots] at X32 l32 y32 z32 st32 hQ32
  subst l32 y32 z32
  obtain ⟨rv32, Nq32, Kq32⟩ := hQ32
  subst rv32
  have N32 := Fr.app N31 Nq32
  -- pc 14: String.isLatin1
  obtain ⟨cq33, kq33, q33a, q33b, q33c⟩ := isOf hZ Kq32 p5_E
  obtain ⟨_, _, ⟨T33, L33, k33, n33⟩, -, X33, ⟨Lc33, hQ33, l33, y33, z33⟩, st33⟩ := X32.virtualBack hx (y := (⟨"java/lang/String", "isLatin1", "()Z"⟩ : MethodName)) (z := (⟨"java/lang/String", "isLatin1", "()Z"⟩ : MethodName)) hown (mvT hZ (hw _ (mg (i := 76) rfl))) (mvT hZ (hw _ (mg (i := 77) rfl))) (notFace_of_selects (args := #[]) (mvT hZ (hw _ (mg (i := 79) rfl)))) (mvT hZ (hw _ (mg (i := 79) rfl))) (mvT hZ (hw _ (mg (i := 78) rfl))) (by decide) (backOf (W := 0) (rm15 l Z av0 hw [] a0 cs h0 n0 (own_le p0_O) p0_O p1_S (hcs : ¬ (cs = (0 : Int32))) p3_F) hZ (hw _ (mg (i := 80) rfl)) (hw _ (mg (i := 11) rfl)) (by decide) (by decide)) q33a q33c (g := (mkF m 14 #[.val (.ref a0), .val (.ref a1), .val (.int 0)] [(.ref a0)])) rfl (by rw [hml]; rfl) (Steps.refl _) (argsL := []) (rest := []) (lenOf pd_13 rfl) rfl (by show 2 * 0 + _ ≤ _; exact Nat.le_of_eq rfl) (hb hby d13_14) (fun vmx hWx => ⟨rfl, Kq32, (by decide : 0 + 0 ≤ _), (by decide : 0 + 0 ≤ _)⟩)
  dsimp only [Pt.U, Pt.locs, Pt.cells, Pt.slots] at X33 l33 y33 z33 st33 hQ33
  subst l33 y33 z33
  obtain ⟨rv33, Nq33, Kq33⟩ := hQ33
  subst rv33
  have N33 := Fr.app N32 Nq33
  obtain ⟨T34, X34, e34, st34⟩ := getF X33 hx hZ hown (host := "") (Or.inl (hw _ (mg (i := 36) rfl))) Via.refl Kq33 p4_F (g := (mkF m 21 #[.val (.ref a0), .val (.ref a1), .val (.int 0)] [(.ref a0)])) rfl rfl (hb hby d13_21)
  obtain ⟨T35, X35, e35, st35⟩ := getF X34 hx hZ hown (host := "") (Or.inl (hw _ (mg (i := 36) rfl))) Via.refl e34 p7_F (g := (mkF m 25 #[.val (.ref a0), .val (.ref a1), .val (.int 0)] [(.ref a1), (.ref va)])) rfl rfl (hb hby d13_25)
  -- pc 28: StringLatin1.indexOf
  obtain ⟨_, _, ⟨T36, L36, k36, n36⟩, -, X36, ⟨Lc36, hQ36, l36, y36, z36⟩, st36⟩ := Jvm.LawKit.callS X35 hx (y := (⟨"java/lang/StringLatin1", "indexOf", "([B[B)I"⟩ : MethodName)) hown (mvT hZ (hw _ (mg (i := 81) rfl))) (mvT hZ (hw _ (mg (i := 82) rfl))) (mvT hZ (hw _ (mg (i := 83) rfl))) (mvT hZ (hw _ (mg (i := 84) rfl))) (by decide) (backOf (W := 0) (ix2_9 l Z av0 hw [] va vb ts ps vt vp ka kb h0 n0 (own_le p0_O) p9_A p10_A (hts : vt = ts.map Value.int) (hlt : ts.length = 25) (hps : vp = ps.map Value.int) (hlp : ps.length = 9)) hZ (hw _ (mg (i := 84) rfl)) (hw _ (mg (i := 83) rfl)) (by decide) (by decide)) (g := (mkF m 28 #[.val (.ref a0), .val (.ref a1), .val (.int 0)] [(.ref vb), (.ref va)])) rfl (by rw [hml]; rfl) (argsL := [(.ref va), (.ref vb)]) (rest := []) (lenOf pd_14 rfl) rfl (by show 2 * 0 + _ ≤ _; exact Nat.le_of_eq rfl) (hb hby d13_28) (fun vmx hWx => ⟨rfl, e35, (by decide : 0 + 0 ≤ _), (by decide : 0 + 0 ≤ _)⟩)
  dsimp only [Pt.U, Pt.locs, Pt.cells, Pt.slots] at X36 l36 y36 z36 st36 hQ36
  subst l36 y36 z36
  obtain ⟨r_36, rv36, Nq36, Kq36, u36_0⟩ := hQ36
  subst rv36
  have N36 := Fr.app N33 Nq36
  obtain ⟨fs, hrL, hrun, hended, hW, hsame⟩ := X36.leave (v := some (.int r_36)) (fun h => by rw [Bd.returns] at h; cases h)
  refine ⟨_, _, pre0 _ ?_, hrun, hended, _, _, rfl, ?_, ⟨_, rfl⟩, hW, hsame.mono (by decide) (by decide)⟩
  · show Steps p.tables e below (s₁.setTop (mkF m 0 #[.val (.ref a0), .val (.ref a1), .unset] [])) _
    refine XS.aloadN X0.here hx rfl (hb hby d13_0) rfl rfl ?_
    show Steps p.tables e below (s₁.setTop (mkF m 1 #[.val (.ref a0), .val (.ref a1), .unset] [(.ref a0)])) _
    refine st31.trans ?_
    refine XS.istoreN X31.here hx rfl (hb hby d13_4) rfl (l' := #[.val (.ref a0), .val (.ref a1), .val (.int 0)]) rfl ?_
    show Steps p.tables e below (T31.setTop (mkF m 5 #[.val (.ref a0), .val (.ref a1), .val (.int 0)] [])) _
    refine XS.iloadN X31.here hx rfl (hb hby d13_5) rfl ?_
    refine XS.aloadN X31.here hx rfl (hb hby d13_6) rfl rfl ?_
    show Steps p.tables e below (T31.setTop (mkF m 7 #[.val (.ref a0), .val (.ref a1), .val (.int 0)] [(.ref a1), (.int 0)])) _
    refine st32.trans ?_
    show Steps p.tables e below (T32.setTop (mkF m 10 #[.val (.ref a0), .val (.ref a1), .val (.int 0)] [(.int 0), (.int 0)])) _
    refine XS.icmpNo X32.here hx rfl (hb hby d13_10) rfl (teq (by decide : (0 : Int32) = (0 : Int32))).2 ?_
    show Steps p.tables e below (T32.setTop (mkF m 13 #[.val (.ref a0), .val (.ref a1), .val (.int 0)] [])) _
    refine XS.aloadN X32.here hx rfl (hb hby d13_13) rfl rfl ?_
    show Steps p.tables e below (T32.setTop (mkF m 14 #[.val (.ref a0), .val (.ref a1), .val (.int 0)] [(.ref a0)])) _
    refine st33.trans ?_
    show Steps p.tables e below (T33.setTop (mkF m 17 #[.val (.ref a0), .val (.ref a1), .val (.int 0)] [(.int 1)])) _
    refine XS.ifNo X33.here hx rfl (hb hby d13_17) rfl ((if0 _ _).trans (feq (by decide : ¬ ((1 : Int32) = (0 : Int32)))).1) ?_
    refine XS.aloadN X33.here hx rfl (hb hby d13_20) rfl rfl ?_
    show Steps p.tables e below (T33.setTop (mkF m 21 #[.val (.ref a0), .val (.ref a1), .val (.int 0)] [(.ref a0)])) _
    refine st34 _ ?_
    refine XS.aloadN X34.here hx rfl (hb hby d13_24) rfl rfl ?_
    show Steps p.tables e below (T34.setTop (mkF m 25 #[.val (.ref a0), .val (.ref a1), .val (.int 0)] [(.ref a1), (.ref va)])) _
    refine st35 _ ?_
    show Steps p.tables e below (T35.setTop (mkF m 28 #[.val (.ref a0), .val (.ref a1), .val (.int 0)] [(.ref vb), (.ref va)])) _
    refine st36 _ ?_
    show Steps p.tables e below (T36.setTop (mkF m 31 #[.val (.ref a0), .val (.ref a1), .val (.int 0)] [(.int r_36)])) _
    refine XS.goto X36.here hx rfl (pc0 := 31) (pc' := 45) rfl (hb hby d13_31) (by decide) (by decide) ?_
    show Steps p.tables e below (T36.setTop (mkF m 45 #[.val (.ref a0), .val (.ref a1), .val (.int 0)] [(.int r_36)])) _
    exact retI X36 hx Bd.returns (hb hby d13_45) hrL
  · show Q_six_9 _ _ _ _ _ _ _ _ _ _ _ _ _ _ _  T36.heap _
    rw [Kq36]
    exact ⟨r_36, rfl, N36, rfl, u36_0⟩
theorem d11_0 : decode jdk_42_method_97_code 0 = .ok (.aload_n 0, 1) := by decide +kernel
theorem d11_1 : decode jdk_42_method_97_code 1 = .ok (.aload_n 1, 1) := by decide +kernel
theorem d11_2 : decode jdk_42_method_97_code 2 = .ok (.invokeinterface 710 1, 5) := by decide +kernel
theorem pd_9 : parseMethodDescriptor "()Ljava/lang/String;" = some ⟨[], some (.object "java/lang/String")⟩ := by decide +kernel
theorem d11_7 : decode jdk_42_method_97_code 7 = .ok (.invokevirtual 711, 3) := by decide +kernel
theorem pd_11 : parseMethodDescriptor "(Ljava/lang/String;)I" = some ⟨[(.object "java/lang/String")], some .int⟩ := by decide +kernel
theorem d11_10 : decode jdk_42_method_97_code 10 = .ok (.ifCond .lt 7, 3) := by decide +kernel
theorem d11_17 : decode jdk_42_method_97_code 17 = .ok (.iconst 0, 1) := by decide +kernel
theorem d11_18 : decode jdk_42_method_97_code 18 = .ok (.ireturn, 1) := by decide +kernel
theorem d11_13 : decode jdk_42_method_97_code 13 = .ok (.iconst 1, 1) := by decide +kernel
theorem d11_14 : decode jdk_42_method_97_code 14 = .ok (.goto 4, 3) := by decide +kernel
theorem ef_ct_9 (m : MethodId) (a0 : Addr) (a1 : Addr) : entryFrame m #[(.ref a0), (.ref a1)] 2 = mkF m 0 #[.val (.ref a0), .val (.ref a1)] [] := by first | (simp [entryFrame, mkF, argsToLocals, Value.category]; done) | rfl
def Q_ct_9 (Z : State) (a0 : Addr) (a1 : Addr) (ts : List Int32) (ps : List Int32) (vt : List Value) (vp : List Value) (ka : ClassId) (kb : ClassId) (va : Addr) (vb : Addr) (cs : Int32) (h0 : Heap) (n0 : Nat) (v : Option Value) (h : Heap) (L : List Loc) : Prop := ∃ r : Int32, v = some (.int r) ∧ Fr n0 L ∧ h = h0 ∧ ((r = (0 : Int32) ∧ ∀ k, k + ps.length ≤ ts.length → ¬ Mat ts ps k) ∨ (r = (1 : Int32) ∧ ∃ k, k + ps.length ≤ ts.length ∧ Mat ts ps k))
set_option maxRecDepth 65536 in
set_option maxHeartbeats 40000000 in
theorem ct_9 (l : Launch) (Z : State) (av0 : Array Value) (hw : ∀ d ∈ tables_1, d.before av0 Z = true) (ws : List Jvm.Cond) (a0 : Addr) (a1 : Addr) (ts : List Int32) (ps : List Int32) (vt : List Value) (vp : List Value) (ka : ClassId) (kb : ClassId) (va : Addr) (vb : Addr) (cs : Int32) (h0 : Heap) (n0 : Nat) (Z0 : n0 ≤ h0.size) (p0_O : Old Z n0 h0) (p1_S : Sta Z Z.heap "java/lang/String" "COMPACT_STRINGS" "Z" (.int cs)) (hcs : ¬ (cs = (0 : Int32))) (p3_F : Fld Z h0 a0 "java/lang/String" "coder" "B" (.int 0)) (p4_F : Fld Z h0 a0 "java/lang/String" "value" "[B" (.ref va)) (p5_E : Exa Z h0 a0 "java/lang/String") (p6_F : Fld Z h0 a1 "java/lang/String" "coder" "B" (.int 0)) (p7_F : Fld Z h0 a1 "java/lang/String" "value" "[B" (.ref vb)) (p8_E : Exa Z h0 a1 "java/lang/String") (p9_A : Arv Z h0 va ka .byte (25 : Int32) vt (.int 0)) (p10_A : Arv Z h0 vb kb .byte (9 : Int32) vp (.int 0)) (hts : vt = ts.map Value.int) (hlt : ts.length = 25) (hps : vp = ps.map Value.int) (hlp : ps.length = 9) :
    MetFree l (⟨"java/lang/String", "contains", "(Ljava/lang/CharSequence;)Z"⟩ : MethodName) (head1 (Jvm.Cond.code (⟨"java/lang/String", "contains", "(Ljava/lang/CharSequence;)Z"⟩ : MethodName) jdk_42_method_97_code 2 (some .boolean) :: ws) ({ frames := 4, cells := 0, slots := 0, locals := 109 } : Room)) (fun a U => a = #[(.ref a0), (.ref a1)] ∧ Z.Warmed39 U.vm ∧ U.heap = h0) (fun _ _ _ _ _ => True) (fun _ U o U' => ∃ v L, o = .returned v ∧ Q_ct_9 Z a0 a1 ts ps vt vp ka kb va vb cs h0 n0 v U'.heap L ∧ FrameEnd U o U' L ({ frames := 4, cells := 0, slots := 0, locals := 109 } : Room).cells ({ frames := 4, cells := 0, slots := 0, locals := 109 } : Room).slots) := by
  refine MetFree.of_bodySF (plainFor_of_name pn_java_lang_String) hisR ?_
  intro p e s m args below meth c s₁ Bd hml0 hP hK
  obtain ⟨rfl, hZ, hh⟩ := hP
  have hx := Bd.exec
  have hby := Bd.bytes
  have hml : c.maxLocals = 2 := hml0
  have hown : s.vm.findClass "java/lang/String" = some m.cls := findClass_of_methodNamed Bd.named
  have hnm := (name_of_methodNamed Bd.named Bd.method).1
  have X0 : Stand p l e ({ frames := 4, cells := 0, slots := 0, locals := 109 } : Room) s m #[(.ref a0), (.ref a1)] below meth c s₁ [] 0 0 := Stand.of_body Bd
  have e0 : s₁.heap = h0 := by rw [← hh, Bd.state]; rfl
  have N0 := Fr.nil n0
  have pre0 : ∀ tz_, Steps p.tables e below (s₁.setTop (mkF m 0 #[.val (.ref a0), .val (.ref a1)] [])) tz_ → Steps p.tables e below (s₁.setTop (entryFrame m #[(.ref a0), (.ref a1)] 2)) tz_ := fun tz_ kz_ => castTop (ef_ct_9 m a0 a1) kz_
  -- pc 2: CharSequence.toString
  obtain ⟨cq31, kq31, q31a, q31b, q31c⟩ := isOf hZ e0 p8_E
  obtain ⟨_, _, ⟨T31, L31, k31, n31⟩, -, X31, ⟨Lc31, hQ31, l31, y31, z31⟩, st31⟩ := X0.interfaceBack hx (xi := (⟨"java/lang/CharSequence", "toString", "()Ljava/lang/String;"⟩ : MethodName)) (y := (⟨"java/lang/String", "toString", "()Ljava/lang/String;"⟩ : MethodName)) hown (mvT hZ (hw _ (mg (i := 57) rfl))) (mvT hZ (hw _ (mg (i := 58) rfl))) (mvT hZ (hw _ (mg (i := 59) rfl))) (mvT hZ (hw _ (mg (i := 60) rfl))) (mvT hZ (hw _ (mg (i := 61) rfl))) (mvT hZ (hw _ (mg (i := 62) rfl))) (mvT hZ (hw _ (mg (i := 63) rfl))) (mvT hZ (hw _ (mg (i := 64) rfl))) (by decide) (backOf (W := 1) (rm12 l Z av0 hw [] a1 h0 n0 (own_le p0_O) ) hZ (hw _ (mg (i := 65) rfl)) (hw _ (mg (i := 11) rfl)) (by decide) (by decide)) q31a q31b q31c (g := (mkF m 2 #[.val (.ref a0), .val (.ref a1)] [(.ref a1), (.ref a0)])) rfl (by rw [hml]; rfl) (Steps.refl _) (argsL := []) (rest := [(.ref a0)]) (lenOf pd_9 rfl) rfl (by show 2 * 0 + _ ≤ _; exact Nat.le_of_eq rfl) (hb hby d11_2) (fun vmx hWx => ⟨rfl, e0, (by decide : 0 + 0 ≤ _), (by decide : 0 + 0 ≤ _)⟩)
  dsimp only [Pt.U, Pt.locs, Pt.cells, Pt.slots] at X31 l31 y31 z31 st31 hQ31
  subst l31 y31 z31
  obtain ⟨rv31, Nq31, Kq31⟩ := hQ31
  subst rv31
  have N31 := Fr.app N0 Nq31
  -- pc 7: String.indexOf
  obtain ⟨cq32, kq32, q32a, q32b, q32c⟩ := isOf hZ Kq31 p5_E
  obtain ⟨_, _, ⟨T32, L32, k32, n32⟩, -, X32, ⟨Lc32, hQ32, l32, y32, z32⟩, st32⟩ := X31.virtualBack hx (y := (⟨"java/lang/String", "indexOf", "(Ljava/lang/String;)I"⟩ : MethodName)) (z := (⟨"java/lang/String", "indexOf", "(Ljava/lang/String;)I"⟩ : MethodName)) hown (mvT hZ (hw _ (mg (i := 66) rfl))) (mvT hZ (hw _ (mg (i := 67) rfl))) (notFace_of_selects (args := #[]) (mvT hZ (hw _ (mg (i := 69) rfl)))) (mvT hZ (hw _ (mg (i := 69) rfl))) (mvT hZ (hw _ (mg (i := 68) rfl))) (by decide) (backOf (W := 0) (six_9 l Z av0 hw [] a0 a1 ts ps vt vp ka kb va vb cs h0 n0 (own_le p0_O) p0_O p1_S (hcs : ¬ (cs = (0 : Int32))) p3_F p4_F p5_E p6_F p7_F p8_E p9_A p10_A (hts : vt = ts.map Value.int) (hlt : ts.length = 25) (hps : vp = ps.map Value.int) (hlp : ps.length = 9)) hZ (hw _ (mg (i := 70) rfl)) (hw _ (mg (i := 11) rfl)) (by decide) (by decide)) q32a q32c (g := (mkF m 7 #[.val (.ref a0), .val (.ref a1)] [(.ref a1), (.ref a0)])) rfl (by rw [hml]; rfl) (Steps.refl _) (argsL := [(.ref a1)]) (rest := []) (lenOf pd_11 rfl) rfl (by show 2 * 0 + _ ≤ _; exact Nat.le_of_eq rfl) (hb hby d11_7) (fun vmx hWx => ⟨rfl, Kq31, (by decide : 0 + 0 ≤ _), (by decide : 0 + 0 ≤ _)⟩)
  dsimp only [Pt.U, Pt.locs, Pt.cells, Pt.slots] at X32 l32 y32 z32 st32 hQ32
  subst l32 y32 z32
  obtain ⟨r_32, rv32, Nq32, Kq32, u32_0⟩ := hQ32
  subst rv32
  have N32 := Fr.app N31 Nq32
  have pre33 : ∀ tz_, Steps p.tables e below (T32.setTop (mkF m 10 #[.val (.ref a0), .val (.ref a1)] [(.int r_32)])) tz_ → Steps p.tables e below (s₁.setTop (entryFrame m #[(.ref a0), (.ref a1)] 2)) tz_ := fun tz_ kk => pre0 tz_ (by
    show Steps p.tables e below (s₁.setTop (mkF m 0 #[.val (.ref a0), .val (.ref a1)] [])) _
    refine XS.aloadN X0.here hx rfl (hb hby d11_0) rfl rfl ?_
    refine XS.aloadN X0.here hx rfl (hb hby d11_1) rfl rfl ?_
    show Steps p.tables e below (s₁.setTop (mkF m 2 #[.val (.ref a0), .val (.ref a1)] [(.ref a1), (.ref a0)])) _
    refine st31.trans ?_
    show Steps p.tables e below (T31.setTop (mkF m 7 #[.val (.ref a0), .val (.ref a1)] [(.ref a1), (.ref a0)])) _
    refine st32.trans ?_
    exact kk)
  by_cases hc34 : r_32 < (0 : Int32)
  · skip
    obtain ⟨fs, hrL, hrun, hended, hW, hsame⟩ := X32.leave (v := some (.int 0)) (fun h => by rw [Bd.returns] at h; cases h)
    refine ⟨_, _, pre33 _ ?_, hrun, hended, _, _, rfl, ?_, ⟨_, rfl⟩, hW, hsame.mono (by decide) (by decide)⟩
    · show Steps p.tables e below (T32.setTop (mkF m 10 #[.val (.ref a0), .val (.ref a1)] [(.int r_32)])) _
      refine XS.ifYes X32.here hx rfl (pc0 := 10) (pc' := 17) rfl (hb hby d11_10) rfl ((if0 _ _).trans (tlt hc34).1) (by decide) (by decide) ?_
      refine XS.iconst X32.here hx rfl (hb hby d11_17) ?_
      show Steps p.tables e below (T32.setTop (mkF m 18 #[.val (.ref a0), .val (.ref a1)] [(.int 0)])) _
      exact retN X32 hx (t := .boolean) Bd.returns (by simp) (hb hby d11_18) hrL
    · show Q_ct_9 _ _ _ _ _ _ _ _ _ _ _ _ _ _ _  T32.heap _
      rw [Kq32]
      exact ⟨(0 : Int32), rfl, N32, rfl, (own_pick_n u32_0 hc34)⟩
  · skip
    obtain ⟨fs, hrL, hrun, hended, hW, hsame⟩ := X32.leave (v := some (.int 1)) (fun h => by rw [Bd.returns] at h; cases h)
    refine ⟨_, _, pre33 _ ?_, hrun, hended, _, _, rfl, ?_, ⟨_, rfl⟩, hW, hsame.mono (by decide) (by decide)⟩
    · show Steps p.tables e below (T32.setTop (mkF m 10 #[.val (.ref a0), .val (.ref a1)] [(.int r_32)])) _
      refine XS.ifNo X32.here hx rfl (hb hby d11_10) rfl ((if0 _ _).trans (flt hc34).1) ?_
      show Steps p.tables e below (T32.setTop (mkF m 13 #[.val (.ref a0), .val (.ref a1)] [])) _
      refine XS.iconst X32.here hx rfl (hb hby d11_13) ?_
      refine XS.goto X32.here hx rfl (pc0 := 14) (pc' := 18) rfl (hb hby d11_14) (by decide) (by decide) ?_
      show Steps p.tables e below (T32.setTop (mkF m 18 #[.val (.ref a0), .val (.ref a1)] [(.int 1)])) _
      exact retN X32 hx (t := .boolean) Bd.returns (by simp) (hb hby d11_18) hrL
    · show Q_ct_9 _ _ _ _ _ _ _ _ _ _ _ _ _ _ _  T32.heap _
      rw [Kq32]
      exact ⟨(1 : Int32), rfl, N32, rfl, (own_pick_y u32_0 hc34)⟩
theorem ef_ix2_10 (m : MethodId) (a0 : Addr) (a1 : Addr) : entryFrame m #[(.ref a0), (.ref a1)] 2 = mkF m 0 #[.val (.ref a0), .val (.ref a1)] [] := by first | (simp [entryFrame, mkF, argsToLocals, Value.category]; done) | rfl
def Q_ix2_10 (Z : State) (a0 : Addr) (a1 : Addr) (ts : List Int32) (ps : List Int32) (vt : List Value) (vp : List Value) (ka : ClassId) (kb : ClassId) (h0 : Heap) (n0 : Nat) (v : Option Value) (h : Heap) (L : List Loc) : Prop := ∃ r : Int32, v = some (.int r) ∧ Fr n0 L ∧ h = h0 ∧ ((r < 0 ∧ ∀ k, k + ps.length ≤ ts.length → ¬ Mat ts ps k) ∨ (¬ r < 0 ∧ ∃ k, k + ps.length ≤ ts.length ∧ Mat ts ps k))
set_option maxRecDepth 65536 in
set_option maxHeartbeats 40000000 in
theorem ix2_10 (l : Launch) (Z : State) (av0 : Array Value) (hw : ∀ d ∈ tables_1, d.before av0 Z = true) (ws : List Jvm.Cond) (a0 : Addr) (a1 : Addr) (ts : List Int32) (ps : List Int32) (vt : List Value) (vp : List Value) (ka : ClassId) (kb : ClassId) (h0 : Heap) (n0 : Nat) (Z0 : n0 ≤ h0.size) (p0_A : Arv Z h0 a0 ka .byte (25 : Int32) vt (.int 0)) (p1_A : Arv Z h0 a1 kb .byte (10 : Int32) vp (.int 0)) (hts : vt = ts.map Value.int) (hlt : ts.length = 25) (hps : vp = ps.map Value.int) (hlp : ps.length = 10) :
    MetFree l (⟨"java/lang/StringLatin1", "indexOf", "([B[B)I"⟩ : MethodName) (head1 (Jvm.Cond.code (⟨"java/lang/StringLatin1", "indexOf", "([B[B)I"⟩ : MethodName) jdk_43_method_24_code 2 (some .int) :: ws) ({ frames := 2, cells := 0, slots := 0, locals := 82 } : Room)) (fun a U => a = #[(.ref a0), (.ref a1)] ∧ Z.Warmed39 U.vm ∧ U.heap = h0) (fun _ _ _ _ _ => True) (fun _ U o U' => ∃ v L, o = .returned v ∧ Q_ix2_10 Z a0 a1 ts ps vt vp ka kb h0 n0 v U'.heap L ∧ FrameEnd U o U' L ({ frames := 2, cells := 0, slots := 0, locals := 82 } : Room).cells ({ frames := 2, cells := 0, slots := 0, locals := 82 } : Room).slots) := by
  refine MetFree.of_bodySF (plainFor_of_name pn_java_lang_StringLatin1) hisR ?_
  intro p e s m args below meth c s₁ Bd hml0 hP hK
  obtain ⟨rfl, hZ, hh⟩ := hP
  have hx := Bd.exec
  have hby := Bd.bytes
  have hml : c.maxLocals = 2 := hml0
  have hown : s.vm.findClass "java/lang/StringLatin1" = some m.cls := findClass_of_methodNamed Bd.named
  have hnm := (name_of_methodNamed Bd.named Bd.method).1
  have X0 : Stand p l e ({ frames := 2, cells := 0, slots := 0, locals := 82 } : Room) s m #[(.ref a0), (.ref a1)] below meth c s₁ [] 0 0 := Stand.of_body Bd
  have e0 : s₁.heap = h0 := by rw [← hh, Bd.state]; rfl
  have N0 := Fr.nil n0
  have pre0 : ∀ tz_, Steps p.tables e below (s₁.setTop (mkF m 0 #[.val (.ref a0), .val (.ref a1)] [])) tz_ → Steps p.tables e below (s₁.setTop (entryFrame m #[(.ref a0), (.ref a1)] 2)) tz_ := fun tz_ kz_ => castTop (ef_ix2_10 m a0 a1) kz_
  obtain ⟨cl31, Ar31, -, qs31, qn31, -, -⟩ := id p1_A
  obtain ⟨cl32, Ar32, -, qs32, qn32, -, -⟩ := id p0_A
  obtain ⟨cl33, Ar33, -, qs33, qn33, -, -⟩ := id p0_A
  obtain ⟨cl34, Ar34, -, qs34, qn34, -, -⟩ := id p1_A
  obtain ⟨clA, ArA, -, qsA, qnA, qhA, -⟩ := id p0_A
  obtain ⟨clB, ArB, -, qsB, qnB, qhB, -⟩ := id p1_A
  have hPx : ∀ vmx, s.WarmedH vmx → Jvm.Free.Str.IXS.P a0 clA 25 a1 clB 10 0 #[(.ref a0), (.int (25 : Int32)), (.ref a1), (.int (10 : Int32)), (.int (0 : Int32))] (s₁.setVm vmx) := fun vmx hWx => ⟨rfl, own_bytes (wtrans hZ hWx).alike (by show s₁.heap[a0]? = _; rw [e0]; exact ArA.1) ArA qsA qhA hts (by decide) hlt, own_bytes (wtrans hZ hWx).alike (by show s₁.heap[a1]? = _; rw [e0]; exact ArB.1) ArB qsB qhB hps (by decide) hlp, by rw [qsA]; decide, by decide, by decide, by rw [qsB]; decide, by decide⟩
  obtain ⟨_, vm35, ⟨T35, L35, k35, n35⟩, hW35, X35, ⟨⟨hh35, hL35, hc35, hn35⟩, hv35⟩, st35⟩ := Jvm.LawKit.callS X0 hx (y := (⟨"java/lang/StringLatin1", "indexOf", "([BI[BII)I"⟩ : MethodName)) hown (mvT hZ (hw _ (mg (i := 85) rfl))) (mvT hZ (hw _ (mg (i := 86) rfl))) (mvT hZ (hw _ (mg (i := 83) rfl))) (mvT hZ (hw _ (mg (i := 87) rfl))) (by decide) (Jvm.Free.Str.IXS.pays (l := l) (W := 0) (by decide) (by decide) (own_ixs (mvT hZ (hw _ (mg (i := 87) rfl)))) (mvT hZ (hw _ (mg (i := 83) rfl)))) (g := (mkF m 21 #[.val (.ref a0), .val (.ref a1)] [(.int 0), (.int 10), (.ref a1), (.int 25), (.ref a0)])) rfl (by rw [hml]; rfl) (argsL := [(.ref a0), (.int 25), (.ref a1), (.int 10), (.int 0)]) (rest := []) (lenOf pd_15 rfl) rfl (by show 2 * 0 + _ ≤ _; exact Nat.le_of_eq rfl) (hb hby d16_21) (fun vmx hWx => ⟨Nat.zero_le _, Nat.zero_le _, (a0, clA, 25, a1, clB, 10, 0), hPx vmx hWx⟩)
  dsimp only [Pt.U, Pt.locs, Pt.cells, Pt.slots] at X35 hh35 hL35 hc35 hn35 hv35 st35
  subst hL35 hc35 hn35
  have hvv := hv35 (a0, clA, 25, a1, clB, 10, 0) (hPx vm35 hW35)
  subst hvv
  have E35 : T35.heap = h0 := hh35.trans e0
  obtain ⟨r, hr0⟩ : ∃ r, r = Jvm.Free.Str.IXS.ans clA clB 25 10 0 := ⟨_, rfl⟩
  have hr : (r < 0 ∧ ∀ k, k + ps.length ≤ ts.length → ¬ Mat ts ps k) ∨ (¬ r < 0 ∧ ∃ k, k + ps.length ≤ ts.length ∧ Mat ts ps k) := by rw [hr0]; exact own_ans qsA qhA hts hlt qsB qhB hps hlp (by decide) (by decide) (by decide)
  rw [← hr0] at st35
  have pre36 : ∀ tz_, Steps p.tables e below (T35.setTop (mkF m 24 #[.val (.ref a0), .val (.ref a1)] [(.int r)])) tz_ → Steps p.tables e below (s₁.setTop (entryFrame m #[(.ref a0), (.ref a1)] 2)) tz_ := fun tz_ kk => pre0 tz_ (by
    show Steps p.tables e below (s₁.setTop (mkF m 0 #[.val (.ref a0), .val (.ref a1)] [])) _
    refine XS.aloadN X0.here hx rfl (hb hby d16_0) rfl rfl ?_
    show Steps p.tables e below (s₁.setTop (mkF m 1 #[.val (.ref a0), .val (.ref a1)] [(.ref a1)])) _
    refine X0.arraylength hx (by rw [e0]; exact Ar31.1) (State.isArrayOf_alike hZ.alike Ar31.2.1) (g := (mkF m 1 #[.val (.ref a0), .val (.ref a1)] [(.ref a1)])) rfl rfl (hb hby d16_1) _ ?_
    rw [len_of qs31 qn31]
    show Steps p.tables e below (s₁.setTop (mkF m 2 #[.val (.ref a0), .val (.ref a1)] [(.int 10)])) _
    refine XS.ifYes X0.here hx rfl (pc0 := 2) (pc' := 7) rfl (hb hby d16_2) rfl ((if0 _ _).trans (feq (by decide : ¬ ((10 : Int32) = (0 : Int32)))).2) (by decide) (by decide) ?_
    show Steps p.tables e below (s₁.setTop (mkF m 7 #[.val (.ref a0), .val (.ref a1)] [])) _
    refine XS.aloadN X0.here hx rfl (hb hby d16_7) rfl rfl ?_
    show Steps p.tables e below (s₁.setTop (mkF m 8 #[.val (.ref a0), .val (.ref a1)] [(.ref a0)])) _
    refine X0.arraylength hx (by rw [e0]; exact Ar32.1) (State.isArrayOf_alike hZ.alike Ar32.2.1) (g := (mkF m 8 #[.val (.ref a0), .val (.ref a1)] [(.ref a0)])) rfl rfl (hb hby d16_8) _ ?_
    rw [len_of qs32 qn32]
    show Steps p.tables e below (s₁.setTop (mkF m 9 #[.val (.ref a0), .val (.ref a1)] [(.int 25)])) _
    refine XS.ifYes X0.here hx rfl (pc0 := 9) (pc' := 14) rfl (hb hby d16_9) rfl ((if0 _ _).trans (feq (by decide : ¬ ((25 : Int32) = (0 : Int32)))).2) (by decide) (by decide) ?_
    refine XS.aloadN X0.here hx rfl (hb hby d16_14) rfl rfl ?_
    show Steps p.tables e below (s₁.setTop (mkF m 15 #[.val (.ref a0), .val (.ref a1)] [(.ref a0)])) _
    refine XS.aloadN X0.here hx rfl (hb hby d16_15) rfl rfl ?_
    show Steps p.tables e below (s₁.setTop (mkF m 16 #[.val (.ref a0), .val (.ref a1)] [(.ref a0), (.ref a0)])) _
    refine X0.arraylength hx (by rw [e0]; exact Ar33.1) (State.isArrayOf_alike hZ.alike Ar33.2.1) (g := (mkF m 16 #[.val (.ref a0), .val (.ref a1)] [(.ref a0), (.ref a0)])) rfl rfl (hb hby d16_16) _ ?_
    rw [len_of qs33 qn33]
    refine XS.aloadN X0.here hx rfl (hb hby d16_17) rfl rfl ?_
    refine XS.aloadN X0.here hx rfl (hb hby d16_18) rfl rfl ?_
    show Steps p.tables e below (s₁.setTop (mkF m 19 #[.val (.ref a0), .val (.ref a1)] [(.ref a1), (.ref a1), (.int 25), (.ref a0)])) _
    refine X0.arraylength hx (by rw [e0]; exact Ar34.1) (State.isArrayOf_alike hZ.alike Ar34.2.1) (g := (mkF m 19 #[.val (.ref a0), .val (.ref a1)] [(.ref a1), (.ref a1), (.int 25), (.ref a0)])) rfl rfl (hb hby d16_19) _ ?_
    rw [len_of qs34 qn34]
    refine XS.iconst X0.here hx rfl (hb hby d16_20) ?_
    show Steps p.tables e below (s₁.setTop (mkF m 21 #[.val (.ref a0), .val (.ref a1)] [(.int 0), (.int 10), (.ref a1), (.int 25), (.ref a0)])) _
    refine st35 _ ?_
    exact kk)
  obtain ⟨fs, hrL, hrun, hended, hW, hsame⟩ := X35.leave (v := some (.int r)) (fun h => by rw [Bd.returns] at h; cases h)
  refine ⟨_, _, pre36 _ ?_, hrun, hended, _, _, rfl, ?_, ⟨_, rfl⟩, hW, hsame.mono (by decide) (by decide)⟩
  · show Steps p.tables e below (T35.setTop (mkF m 24 #[.val (.ref a0), .val (.ref a1)] [(.int r)])) _
    exact retI X35 hx Bd.returns (hb hby d16_24) hrL
  · show Q_ix2_10 _ _ _ _ _ _ _ _ _ _ _ _  T35.heap _
    rw [E35]
    exact ⟨r, rfl, N0, rfl, hr⟩
theorem ef_six_10 (m : MethodId) (a0 : Addr) (a1 : Addr) : entryFrame m #[(.ref a0), (.ref a1)] 3 = mkF m 0 #[.val (.ref a0), .val (.ref a1), .unset] [] := by first | (simp [entryFrame, mkF, argsToLocals, Value.category]; done) | rfl
def Q_six_10 (Z : State) (a0 : Addr) (a1 : Addr) (ts : List Int32) (ps : List Int32) (vt : List Value) (vp : List Value) (ka : ClassId) (kb : ClassId) (va : Addr) (vb : Addr) (cs : Int32) (h0 : Heap) (n0 : Nat) (v : Option Value) (h : Heap) (L : List Loc) : Prop := ∃ r : Int32, v = some (.int r) ∧ Fr n0 L ∧ h = h0 ∧ ((r < 0 ∧ ∀ k, k + ps.length ≤ ts.length → ¬ Mat ts ps k) ∨ (¬ r < 0 ∧ ∃ k, k + ps.length ≤ ts.length ∧ Mat ts ps k))
set_option maxRecDepth 65536 in
set_option maxHeartbeats 40000000 in
theorem six_10 (l : Launch) (Z : State) (av0 : Array Value) (hw : ∀ d ∈ tables_1, d.before av0 Z = true) (ws : List Jvm.Cond) (a0 : Addr) (a1 : Addr) (ts : List Int32) (ps : List Int32) (vt : List Value) (vp : List Value) (ka : ClassId) (kb : ClassId) (va : Addr) (vb : Addr) (cs : Int32) (h0 : Heap) (n0 : Nat) (Z0 : n0 ≤ h0.size) (p0_O : Old Z n0 h0) (p1_S : Sta Z Z.heap "java/lang/String" "COMPACT_STRINGS" "Z" (.int cs)) (hcs : ¬ (cs = (0 : Int32))) (p3_F : Fld Z h0 a0 "java/lang/String" "coder" "B" (.int 0)) (p4_F : Fld Z h0 a0 "java/lang/String" "value" "[B" (.ref va)) (p5_E : Exa Z h0 a0 "java/lang/String") (p6_F : Fld Z h0 a1 "java/lang/String" "coder" "B" (.int 0)) (p7_F : Fld Z h0 a1 "java/lang/String" "value" "[B" (.ref vb)) (p8_E : Exa Z h0 a1 "java/lang/String") (p9_A : Arv Z h0 va ka .byte (25 : Int32) vt (.int 0)) (p10_A : Arv Z h0 vb kb .byte (10 : Int32) vp (.int 0)) (hts : vt = ts.map Value.int) (hlt : ts.length = 25) (hps : vp = ps.map Value.int) (hlp : ps.length = 10) :
    MetFree l (⟨"java/lang/String", "indexOf", "(Ljava/lang/String;)I"⟩ : MethodName) (head1 (Jvm.Cond.code (⟨"java/lang/String", "indexOf", "(Ljava/lang/String;)I"⟩ : MethodName) jdk_42_method_84_code 3 (some .int) :: ws) ({ frames := 3, cells := 0, slots := 0, locals := 95 } : Room)) (fun a U => a = #[(.ref a0), (.ref a1)] ∧ Z.Warmed39 U.vm ∧ U.heap = h0) (fun _ _ _ _ _ => True) (fun _ U o U' => ∃ v L, o = .returned v ∧ Q_six_10 Z a0 a1 ts ps vt vp ka kb va vb cs h0 n0 v U'.heap L ∧ FrameEnd U o U' L ({ frames := 3, cells := 0, slots := 0, locals := 95 } : Room).cells ({ frames := 3, cells := 0, slots := 0, locals := 95 } : Room).slots) := by
  refine MetFree.of_bodySF (plainFor_of_name pn_java_lang_String) hisR ?_
  intro p e s m args below meth c s₁ Bd hml0 hP hK
  obtain ⟨rfl, hZ, hh⟩ := hP
  have hx := Bd.exec
  have hby := Bd.bytes
  have hml : c.maxLocals = 3 := hml0
  have hown : s.vm.findClass "java/lang/String" = some m.cls := findClass_of_methodNamed Bd.named
  have hnm := (name_of_methodNamed Bd.named Bd.method).1
  have X0 : Stand p l e ({ frames := 3, cells := 0, slots := 0, locals := 95 } : Room) s m #[(.ref a0), (.ref a1)] below meth c s₁ [] 0 0 := Stand.of_body Bd
  have e0 : s₁.heap = h0 := by rw [← hh, Bd.state]; rfl
  have N0 := Fr.nil n0
  have pre0 : ∀ tz_, Steps p.tables e below (s₁.setTop (mkF m 0 #[.val (.ref a0), .val (.ref a1), .unset] [])) tz_ → Steps p.tables e below (s₁.setTop (entryFrame m #[(.ref a0), (.ref a1)] 3)) tz_ := fun tz_ kz_ => castTop (ef_six_10 m a0 a1) kz_
  -- pc 1: String.coder
  obtain ⟨cq31, kq31, q31a, q31b, q31c⟩ := isOf hZ e0 p5_E
  obtain ⟨_, _, ⟨T31, L31, k31, n31⟩, -, X31, ⟨Lc31, hQ31, l31, y31, z31⟩, st31⟩ := X0.virtualBack hx (y := (⟨"java/lang/String", "coder", "()B"⟩ : MethodName)) (z := (⟨"java/lang/String", "coder", "()B"⟩ : MethodName)) hown (mvT hZ (hw _ (mg (i := 71) rfl))) (mvT hZ (hw _ (mg (i := 72) rfl))) (notFace_of_selects (args := #[]) (mvT hZ (hw _ (mg (i := 74) rfl)))) (mvT hZ (hw _ (mg (i := 74) rfl))) (mvT hZ (hw _ (mg (i := 73) rfl))) (by decide) (backOf (W := 0) (rm14 l Z av0 hw [] a0 cs h0 n0 (own_le p0_O) p0_O p1_S (hcs : ¬ (cs = (0 : Int32))) p3_F) hZ (hw _ (mg (i := 75) rfl)) (hw _ (mg (i := 11) rfl)) (by decide) (by decide)) q31a q31c (g := (mkF m 1 #[.val (.ref a0), .val (.ref a1), .unset] [(.ref a0)])) rfl (by rw [hml]; rfl) (Steps.refl _) (argsL := []) (rest := []) (lenOf pd_12 rfl) rfl (by show 2 * 0 + _ ≤ _; exact Nat.le_of_eq rfl) (hb hby d13_1) (fun vmx hWx => ⟨rfl, e0, (by decide : 0 + 0 ≤ _), (by decide : 0 + 0 ≤ _)⟩)
  dsimp only [Pt.U, Pt.locs, Pt.cells, Pt.slots] at X31 l31 y31 z31 st31 hQ31
  subst l31 y31 z31
  obtain ⟨rv31, Nq31, Kq31⟩ := hQ31
  subst rv31
  have N31 := Fr.app N0 Nq31
  -- pc 7: String.coder
  obtain ⟨cq32, kq32, q32a, q32b, q32c⟩ := isOf hZ Kq31 p8_E
  obtain ⟨_, _, ⟨T32, L32, k32, n32⟩, -, X32, ⟨Lc32, hQ32, l32, y32, z32⟩, st32⟩ := X31.virtualBack hx (y := (⟨"java/lang/String", "coder", "()B"⟩ : MethodName)) (z := (⟨"java/lang/String", "coder", "()B"⟩ : MethodName)) hown (mvT hZ (hw _ (mg (i := 71) rfl))) (mvT hZ (hw _ (mg (i := 72) rfl))) (notFace_of_selects (args := #[]) (mvT hZ (hw _ (mg (i := 74) rfl)))) (mvT hZ (hw _ (mg (i := 74) rfl))) (mvT hZ (hw _ (mg (i := 73) rfl))) (by decide) (backOf (W := 1) (rm14 l Z av0 hw [] a1 cs h0 n0 (own_le p0_O) p0_O p1_S (hcs : ¬ (cs = (0 : Int32))) p6_F) hZ (hw _ (mg (i := 75) rfl)) (hw _ (mg (i := 11) rfl)) (by decide) (by decide)) q32a q32c (g := (mkF m 7 #[.val (.ref a0), .val (.ref a1), .val (.int 0)] [(.ref a1), (.int 0)])) rfl (by rw [hml]; rfl) (Steps.refl _) (argsL := []) (rest := [(.int 0)]) (lenOf pd_12 rfl) rfl (by show 2 * 0 + _ ≤ _; exact Nat.le_of_eq rfl) (hb hby d13_7) (fun vmx hWx => ⟨rfl, Kq31, (by decide : 0 + 0 ≤ _), (by decide : 0 + 0 ≤ _)⟩)
  dsimp only [Pt.U, Pt.locs, Pt.cells, Pt.slots] at X32 l32 y32 z32 st32 hQ32
  subst l32 y32 z32
  obtain ⟨rv32, Nq32, Kq32⟩ := hQ32
  subst rv32
  have N32 := Fr.app N31 Nq32
  -- pc 14: String.isLatin1
  obtain ⟨cq33, kq33, q33a, q33b, q33c⟩ := isOf hZ Kq32 p5_E
  obtain ⟨_, _, ⟨T33, L33, k33, n33⟩, -, X33, ⟨Lc33, hQ33, l33, y33, z33⟩, st33⟩ := X32.virtualBack hx (y := (⟨"java/lang/String", "isLatin1", "()Z"⟩ : MethodName)) (z := (⟨"java/lang/String", "isLatin1", "()Z"⟩ : MethodName)) hown (mvT hZ (hw _ (mg (i := 76) rfl))) (mvT hZ (hw _ (mg (i := 77) rfl))) (notFace_of_selects (args := #[]) (mvT hZ (hw _ (mg (i := 79) rfl)))) (mvT hZ (hw _ (mg (i := 79) rfl))) (mvT hZ (hw _ (mg (i := 78) rfl))) (by decide) (backOf (W := 0) (rm15 l Z av0 hw [] a0 cs h0 n0 (own_le p0_O) p0_O p1_S (hcs : ¬ (cs = (0 : Int32))) p3_F) hZ (hw _ (mg (i := 80) rfl)) (hw _ (mg (i := 11) rfl)) (by decide) (by decide)) q33a q33c (g := (mkF m 14 #[.val (.ref a0), .val (.ref a1), .val (.int 0)] [(.ref a0)])) rfl (by rw [hml]; rfl) (Steps.refl _) (argsL := []) (rest := []) (lenOf pd_13 rfl) rfl (by show 2 * 0 + _ ≤ _; exact Nat.le_of_eq rfl) (hb hby d13_14) (fun vmx hWx => ⟨rfl, Kq32, (by decide : 0 + 0 ≤ _), (by decide : 0 + 0 ≤ _)⟩)
  dsimp only [Pt.U, Pt.locs, Pt.cells, Pt.slots] at X33 l33 y33 z33 st33 hQ33
  subst l33 y33 z33
  obtain ⟨rv33, Nq33, Kq33⟩ := hQ33
  subst rv33
  have N33 := Fr.app N32 Nq33
  obtain ⟨T34, X34, e34, st34⟩ := getF X33 hx hZ hown (host := "") (Or.inl (hw _ (mg (i := 36) rfl))) Via.refl Kq33 p4_F (g := (mkF m 21 #[.val (.ref a0), .val (.ref a1), .val (.int 0)] [(.ref a0)])) rfl rfl (hb hby d13_21)
  obtain ⟨T35, X35, e35, st35⟩ := getF X34 hx hZ hown (host := "") (Or.inl (hw _ (mg (i := 36) rfl))) Via.refl e34 p7_F (g := (mkF m 25 #[.val (.ref a0), .val (.ref a1), .val (.int 0)] [(.ref a1), (.ref va)])) rfl rfl (hb hby d13_25)
  -- pc 28: StringLatin1.indexOf
  obtain ⟨_, _, ⟨T36, L36, k36, n36⟩, -, X36, ⟨Lc36, hQ36, l36, y36, z36⟩, st36⟩ := Jvm.LawKit.callS X35 hx (y := (⟨"java/lang/StringLatin1", "indexOf", "([B[B)I"⟩ : MethodName)) hown (mvT hZ (hw _ (mg (i := 81) rfl))) (mvT hZ (hw _ (mg (i := 82) rfl))) (mvT hZ (hw _ (mg (i := 83) rfl))) (mvT hZ (hw _ (mg (i := 84) rfl))) (by decide) (backOf (W := 0) (ix2_10 l Z av0 hw [] va vb ts ps vt vp ka kb h0 n0 (own_le p0_O) p9_A p10_A (hts : vt = ts.map Value.int) (hlt : ts.length = 25) (hps : vp = ps.map Value.int) (hlp : ps.length = 10)) hZ (hw _ (mg (i := 84) rfl)) (hw _ (mg (i := 83) rfl)) (by decide) (by decide)) (g := (mkF m 28 #[.val (.ref a0), .val (.ref a1), .val (.int 0)] [(.ref vb), (.ref va)])) rfl (by rw [hml]; rfl) (argsL := [(.ref va), (.ref vb)]) (rest := []) (lenOf pd_14 rfl) rfl (by show 2 * 0 + _ ≤ _; exact Nat.le_of_eq rfl) (hb hby d13_28) (fun vmx hWx => ⟨rfl, e35, (by decide : 0 + 0 ≤ _), (by decide : 0 + 0 ≤ _)⟩)
  dsimp only [Pt.U, Pt.locs, Pt.cells, Pt.slots] at X36 l36 y36 z36 st36 hQ36
  subst l36 y36 z36
  obtain ⟨r_36, rv36, Nq36, Kq36, u36_0⟩ := hQ36
  subst rv36
  have N36 := Fr.app N33 Nq36
  obtain ⟨fs, hrL, hrun, hended, hW, hsame⟩ := X36.leave (v := some (.int r_36)) (fun h => by rw [Bd.returns] at h; cases h)
  refine ⟨_, _, pre0 _ ?_, hrun, hended, _, _, rfl, ?_, ⟨_, rfl⟩, hW, hsame.mono (by decide) (by decide)⟩
  · show Steps p.tables e below (s₁.setTop (mkF m 0 #[.val (.ref a0), .val (.ref a1), .unset] [])) _
    refine XS.aloadN X0.here hx rfl (hb hby d13_0) rfl rfl ?_
    show Steps p.tables e below (s₁.setTop (mkF m 1 #[.val (.ref a0), .val (.ref a1), .unset] [(.ref a0)])) _
    refine st31.trans ?_
    refine XS.istoreN X31.here hx rfl (hb hby d13_4) rfl (l' := #[.val (.ref a0), .val (.ref a1), .val (.int 0)]) rfl ?_
    show Steps p.tables e below (T31.setTop (mkF m 5 #[.val (.ref a0), .val (.ref a1), .val (.int 0)] [])) _
    refine XS.iloadN X31.here hx rfl (hb hby d13_5) rfl ?_
    refine XS.aloadN X31.here hx rfl (hb hby d13_6) rfl rfl ?_
    show Steps p.tables e below (T31.setTop (mkF m 7 #[.val (.ref a0), .val (.ref a1), .val (.int 0)] [(.ref a1), (.int 0)])) _
    refine st32.trans ?_
    show Steps p.tables e below (T32.setTop (mkF m 10 #[.val (.ref a0), .val (.ref a1), .val (.int 0)] [(.int 0), (.int 0)])) _
    refine XS.icmpNo X32.here hx rfl (hb hby d13_10) rfl (teq (by decide : (0 : Int32) = (0 : Int32))).2 ?_
    show Steps p.tables e below (T32.setTop (mkF m 13 #[.val (.ref a0), .val (.ref a1), .val (.int 0)] [])) _
    refine XS.aloadN X32.here hx rfl (hb hby d13_13) rfl rfl ?_
    show Steps p.tables e below (T32.setTop (mkF m 14 #[.val (.ref a0), .val (.ref a1), .val (.int 0)] [(.ref a0)])) _
    refine st33.trans ?_
    show Steps p.tables e below (T33.setTop (mkF m 17 #[.val (.ref a0), .val (.ref a1), .val (.int 0)] [(.int 1)])) _
    refine XS.ifNo X33.here hx rfl (hb hby d13_17) rfl ((if0 _ _).trans (feq (by decide : ¬ ((1 : Int32) = (0 : Int32)))).1) ?_
    refine XS.aloadN X33.here hx rfl (hb hby d13_20) rfl rfl ?_
    show Steps p.tables e below (T33.setTop (mkF m 21 #[.val (.ref a0), .val (.ref a1), .val (.int 0)] [(.ref a0)])) _
    refine st34 _ ?_
    refine XS.aloadN X34.here hx rfl (hb hby d13_24) rfl rfl ?_
    show Steps p.tables e below (T34.setTop (mkF m 25 #[.val (.ref a0), .val (.ref a1), .val (.int 0)] [(.ref a1), (.ref va)])) _
    refine st35 _ ?_
    show Steps p.tables e below (T35.setTop (mkF m 28 #[.val (.ref a0), .val (.ref a1), .val (.int 0)] [(.ref vb), (.ref va)])) _
    refine st36 _ ?_
    show Steps p.tables e below (T36.setTop (mkF m 31 #[.val (.ref a0), .val (.ref a1), .val (.int 0)] [(.int r_36)])) _
    refine XS.goto X36.here hx rfl (pc0 := 31) (pc' := 45) rfl (hb hby d13_31) (by decide) (by decide) ?_
    show Steps p.tables e below (T36.setTop (mkF m 45 #[.val (.ref a0), .val (.ref a1), .val (.int 0)] [(.int r_36)])) _
    exact retI X36 hx Bd.returns (hb hby d13_45) hrL
  · show Q_six_10 _ _ _ _ _ _ _ _ _ _ _ _ _ _ _  T36.heap _
    rw [Kq36]
    exact ⟨r_36, rfl, N36, rfl, u36_0⟩
theorem ef_ct_10 (m : MethodId) (a0 : Addr) (a1 : Addr) : entryFrame m #[(.ref a0), (.ref a1)] 2 = mkF m 0 #[.val (.ref a0), .val (.ref a1)] [] := by first | (simp [entryFrame, mkF, argsToLocals, Value.category]; done) | rfl
def Q_ct_10 (Z : State) (a0 : Addr) (a1 : Addr) (ts : List Int32) (ps : List Int32) (vt : List Value) (vp : List Value) (ka : ClassId) (kb : ClassId) (va : Addr) (vb : Addr) (cs : Int32) (h0 : Heap) (n0 : Nat) (v : Option Value) (h : Heap) (L : List Loc) : Prop := ∃ r : Int32, v = some (.int r) ∧ Fr n0 L ∧ h = h0 ∧ ((r = (0 : Int32) ∧ ∀ k, k + ps.length ≤ ts.length → ¬ Mat ts ps k) ∨ (r = (1 : Int32) ∧ ∃ k, k + ps.length ≤ ts.length ∧ Mat ts ps k))
set_option maxRecDepth 65536 in
set_option maxHeartbeats 40000000 in
theorem ct_10 (l : Launch) (Z : State) (av0 : Array Value) (hw : ∀ d ∈ tables_1, d.before av0 Z = true) (ws : List Jvm.Cond) (a0 : Addr) (a1 : Addr) (ts : List Int32) (ps : List Int32) (vt : List Value) (vp : List Value) (ka : ClassId) (kb : ClassId) (va : Addr) (vb : Addr) (cs : Int32) (h0 : Heap) (n0 : Nat) (Z0 : n0 ≤ h0.size) (p0_O : Old Z n0 h0) (p1_S : Sta Z Z.heap "java/lang/String" "COMPACT_STRINGS" "Z" (.int cs)) (hcs : ¬ (cs = (0 : Int32))) (p3_F : Fld Z h0 a0 "java/lang/String" "coder" "B" (.int 0)) (p4_F : Fld Z h0 a0 "java/lang/String" "value" "[B" (.ref va)) (p5_E : Exa Z h0 a0 "java/lang/String") (p6_F : Fld Z h0 a1 "java/lang/String" "coder" "B" (.int 0)) (p7_F : Fld Z h0 a1 "java/lang/String" "value" "[B" (.ref vb)) (p8_E : Exa Z h0 a1 "java/lang/String") (p9_A : Arv Z h0 va ka .byte (25 : Int32) vt (.int 0)) (p10_A : Arv Z h0 vb kb .byte (10 : Int32) vp (.int 0)) (hts : vt = ts.map Value.int) (hlt : ts.length = 25) (hps : vp = ps.map Value.int) (hlp : ps.length = 10) :
    MetFree l (⟨"java/lang/String", "contains", "(Ljava/lang/CharSequence;)Z"⟩ : MethodName) (head1 (Jvm.Cond.code (⟨"java/lang/String", "contains", "(Ljava/lang/CharSequence;)Z"⟩ : MethodName) jdk_42_method_97_code 2 (some .boolean) :: ws) ({ frames := 4, cells := 0, slots := 0, locals := 109 } : Room)) (fun a U => a = #[(.ref a0), (.ref a1)] ∧ Z.Warmed39 U.vm ∧ U.heap = h0) (fun _ _ _ _ _ => True) (fun _ U o U' => ∃ v L, o = .returned v ∧ Q_ct_10 Z a0 a1 ts ps vt vp ka kb va vb cs h0 n0 v U'.heap L ∧ FrameEnd U o U' L ({ frames := 4, cells := 0, slots := 0, locals := 109 } : Room).cells ({ frames := 4, cells := 0, slots := 0, locals := 109 } : Room).slots) := by
  refine MetFree.of_bodySF (plainFor_of_name pn_java_lang_String) hisR ?_
  intro p e s m args below meth c s₁ Bd hml0 hP hK
  obtain ⟨rfl, hZ, hh⟩ := hP
  have hx := Bd.exec
  have hby := Bd.bytes
  have hml : c.maxLocals = 2 := hml0
  have hown : s.vm.findClass "java/lang/String" = some m.cls := findClass_of_methodNamed Bd.named
  have hnm := (name_of_methodNamed Bd.named Bd.method).1
  have X0 : Stand p l e ({ frames := 4, cells := 0, slots := 0, locals := 109 } : Room) s m #[(.ref a0), (.ref a1)] below meth c s₁ [] 0 0 := Stand.of_body Bd
  have e0 : s₁.heap = h0 := by rw [← hh, Bd.state]; rfl
  have N0 := Fr.nil n0
  have pre0 : ∀ tz_, Steps p.tables e below (s₁.setTop (mkF m 0 #[.val (.ref a0), .val (.ref a1)] [])) tz_ → Steps p.tables e below (s₁.setTop (entryFrame m #[(.ref a0), (.ref a1)] 2)) tz_ := fun tz_ kz_ => castTop (ef_ct_10 m a0 a1) kz_
  -- pc 2: CharSequence.toString
  obtain ⟨cq31, kq31, q31a, q31b, q31c⟩ := isOf hZ e0 p8_E
  obtain ⟨_, _, ⟨T31, L31, k31, n31⟩, -, X31, ⟨Lc31, hQ31, l31, y31, z31⟩, st31⟩ := X0.interfaceBack hx (xi := (⟨"java/lang/CharSequence", "toString", "()Ljava/lang/String;"⟩ : MethodName)) (y := (⟨"java/lang/String", "toString", "()Ljava/lang/String;"⟩ : MethodName)) hown (mvT hZ (hw _ (mg (i := 57) rfl))) (mvT hZ (hw _ (mg (i := 58) rfl))) (mvT hZ (hw _ (mg (i := 59) rfl))) (mvT hZ (hw _ (mg (i := 60) rfl))) (mvT hZ (hw _ (mg (i := 61) rfl))) (mvT hZ (hw _ (mg (i := 62) rfl))) (mvT hZ (hw _ (mg (i := 63) rfl))) (mvT hZ (hw _ (mg (i := 64) rfl))) (by decide) (backOf (W := 1) (rm12 l Z av0 hw [] a1 h0 n0 (own_le p0_O) ) hZ (hw _ (mg (i := 65) rfl)) (hw _ (mg (i := 11) rfl)) (by decide) (by decide)) q31a q31b q31c (g := (mkF m 2 #[.val (.ref a0), .val (.ref a1)] [(.ref a1), (.ref a0)])) rfl (by rw [hml]; rfl) (Steps.refl _) (argsL := []) (rest := [(.ref a0)]) (lenOf pd_9 rfl) rfl (by show 2 * 0 + _ ≤ _; exact Nat.le_of_eq rfl) (hb hby d11_2) (fun vmx hWx => ⟨rfl, e0, (by decide : 0 + 0 ≤ _), (by decide : 0 + 0 ≤ _)⟩)
  dsimp only [Pt.U, Pt.locs, Pt.cells, Pt.slots] at X31 l31 y31 z31 st31 hQ31
  subst l31 y31 z31
  obtain ⟨rv31, Nq31, Kq31⟩ := hQ31
  subst rv31
  have N31 := Fr.app N0 Nq31
  -- pc 7: String.indexOf
  obtain ⟨cq32, kq32, q32a, q32b, q32c⟩ := isOf hZ Kq31 p5_E
  obtain ⟨_, _, ⟨T32, L32, k32, n32⟩, -, X32, ⟨Lc32, hQ32, l32, y32, z32⟩, st32⟩ := X31.virtualBack hx (y := (⟨"java/lang/String", "indexOf", "(Ljava/lang/String;)I"⟩ : MethodName)) (z := (⟨"java/lang/String", "indexOf", "(Ljava/lang/String;)I"⟩ : MethodName)) hown (mvT hZ (hw _ (mg (i := 66) rfl))) (mvT hZ (hw _ (mg (i := 67) rfl))) (notFace_of_selects (args := #[]) (mvT hZ (hw _ (mg (i := 69) rfl)))) (mvT hZ (hw _ (mg (i := 69) rfl))) (mvT hZ (hw _ (mg (i := 68) rfl))) (by decide) (backOf (W := 0) (six_10 l Z av0 hw [] a0 a1 ts ps vt vp ka kb va vb cs h0 n0 (own_le p0_O) p0_O p1_S (hcs : ¬ (cs = (0 : Int32))) p3_F p4_F p5_E p6_F p7_F p8_E p9_A p10_A (hts : vt = ts.map Value.int) (hlt : ts.length = 25) (hps : vp = ps.map Value.int) (hlp : ps.length = 10)) hZ (hw _ (mg (i := 70) rfl)) (hw _ (mg (i := 11) rfl)) (by decide) (by decide)) q32a q32c (g := (mkF m 7 #[.val (.ref a0), .val (.ref a1)] [(.ref a1), (.ref a0)])) rfl (by rw [hml]; rfl) (Steps.refl _) (argsL := [(.ref a1)]) (rest := []) (lenOf pd_11 rfl) rfl (by show 2 * 0 + _ ≤ _; exact Nat.le_of_eq rfl) (hb hby d11_7) (fun vmx hWx => ⟨rfl, Kq31, (by decide : 0 + 0 ≤ _), (by decide : 0 + 0 ≤ _)⟩)
  dsimp only [Pt.U, Pt.locs, Pt.cells, Pt.slots] at X32 l32 y32 z32 st32 hQ32
  subst l32 y32 z32
  obtain ⟨r_32, rv32, Nq32, Kq32, u32_0⟩ := hQ32
  subst rv32
  have N32 := Fr.app N31 Nq32
  have pre33 : ∀ tz_, Steps p.tables e below (T32.setTop (mkF m 10 #[.val (.ref a0), .val (.ref a1)] [(.int r_32)])) tz_ → Steps p.tables e below (s₁.setTop (entryFrame m #[(.ref a0), (.ref a1)] 2)) tz_ := fun tz_ kk => pre0 tz_ (by
    show Steps p.tables e below (s₁.setTop (mkF m 0 #[.val (.ref a0), .val (.ref a1)] [])) _
    refine XS.aloadN X0.here hx rfl (hb hby d11_0) rfl rfl ?_
    refine XS.aloadN X0.here hx rfl (hb hby d11_1) rfl rfl ?_
    show Steps p.tables e below (s₁.setTop (mkF m 2 #[.val (.ref a0), .val (.ref a1)] [(.ref a1), (.ref a0)])) _
    refine st31.trans ?_
    show Steps p.tables e below (T31.setTop (mkF m 7 #[.val (.ref a0), .val (.ref a1)] [(.ref a1), (.ref a0)])) _
    refine st32.trans ?_
    exact kk)
  by_cases hc34 : r_32 < (0 : Int32)
  · skip
    obtain ⟨fs, hrL, hrun, hended, hW, hsame⟩ := X32.leave (v := some (.int 0)) (fun h => by rw [Bd.returns] at h; cases h)
    refine ⟨_, _, pre33 _ ?_, hrun, hended, _, _, rfl, ?_, ⟨_, rfl⟩, hW, hsame.mono (by decide) (by decide)⟩
    · show Steps p.tables e below (T32.setTop (mkF m 10 #[.val (.ref a0), .val (.ref a1)] [(.int r_32)])) _
      refine XS.ifYes X32.here hx rfl (pc0 := 10) (pc' := 17) rfl (hb hby d11_10) rfl ((if0 _ _).trans (tlt hc34).1) (by decide) (by decide) ?_
      refine XS.iconst X32.here hx rfl (hb hby d11_17) ?_
      show Steps p.tables e below (T32.setTop (mkF m 18 #[.val (.ref a0), .val (.ref a1)] [(.int 0)])) _
      exact retN X32 hx (t := .boolean) Bd.returns (by simp) (hb hby d11_18) hrL
    · show Q_ct_10 _ _ _ _ _ _ _ _ _ _ _ _ _ _ _  T32.heap _
      rw [Kq32]
      exact ⟨(0 : Int32), rfl, N32, rfl, (own_pick_n u32_0 hc34)⟩
  · skip
    obtain ⟨fs, hrL, hrun, hended, hW, hsame⟩ := X32.leave (v := some (.int 1)) (fun h => by rw [Bd.returns] at h; cases h)
    refine ⟨_, _, pre33 _ ?_, hrun, hended, _, _, rfl, ?_, ⟨_, rfl⟩, hW, hsame.mono (by decide) (by decide)⟩
    · show Steps p.tables e below (T32.setTop (mkF m 10 #[.val (.ref a0), .val (.ref a1)] [(.int r_32)])) _
      refine XS.ifNo X32.here hx rfl (hb hby d11_10) rfl ((if0 _ _).trans (flt hc34).1) ?_
      show Steps p.tables e below (T32.setTop (mkF m 13 #[.val (.ref a0), .val (.ref a1)] [])) _
      refine XS.iconst X32.here hx rfl (hb hby d11_13) ?_
      refine XS.goto X32.here hx rfl (pc0 := 14) (pc' := 18) rfl (hb hby d11_14) (by decide) (by decide) ?_
      show Steps p.tables e below (T32.setTop (mkF m 18 #[.val (.ref a0), .val (.ref a1)] [(.int 1)])) _
      exact retN X32 hx (t := .boolean) Bd.returns (by simp) (hb hby d11_18) hrL
    · show Q_ct_10 _ _ _ _ _ _ _ _ _ _ _ _ _ _ _  T32.heap _
      rw [Kq32]
      exact ⟨(1 : Int32), rfl, N32, rfl, (own_pick_y u32_0 hc34)⟩
def b8 (x : Int32) : Int32 := x.toInt8.toInt32
theorem own_edb {nm xs : List Int32} (hnm : nm.map b8 = nm) (hpos : ∀ k, k < nm.length → 0 ≤ (nm.getD k 0).toInt) (hch : ∀ x ∈ xs, Ch x) (h : Ed nm xs) : Ed nm (xs.map b8) := by
  obtain ⟨k, c, hk, rfl, hc⟩ := h
  refine ⟨k, b8 c, hk, by rw [List.map_set, hnm], fun e => hc ?_⟩
  have hcc : Ch c := hch c (List.mem_set hk c)
  have h1 := c_i2b c
  have h2 := hpos k hk
  have h3 : (b8 c).toInt = c.toInt8.toInt32.toInt := rfl
  unfold Ch at hcc
  refine Int32.toInt_inj.mp ?_
  have h4 := congrArg Int32.toInt e
  omega
theorem own_all {P : Int32 → Prop} : ∀ (xs : List Int32), (∀ i, i < xs.length → P (xs.getD i 0)) → ∀ x ∈ xs, P x := fun xs h x hx => by
  obtain ⟨i, hi, e⟩ := List.mem_iff_getElem.mp hx
  have := h i hi
  rw [List.getD_eq_getElem?_getD, List.getElem?_eq_getElem hi] at this
  rw [← e]; exact this
def HRv (ts : List Int32) (wt wp : Addr) (rv : Value) : Prop := ((∃ k, k + TN.length ≤ ts.length ∧ Mat ts TN k) → ¬ (∃ k, k + PN.length ≤ ts.length ∧ Mat ts PN k) → rv = Value.ref wt) ∧ (¬ (∃ k, k + TN.length ≤ ts.length ∧ Mat ts TN k) → (∃ k, k + PN.length ≤ ts.length ∧ Mat ts PN k) → rv = Value.ref wp) ∧ ((∃ k, k + TN.length ≤ ts.length ∧ Mat ts TN k) → (∃ k, k + PN.length ≤ ts.length ∧ Mat ts PN k) → rv = Value.null) ∧ (¬ (∃ k, k + TN.length ≤ ts.length ∧ Mat ts TN k) → ¬ (∃ k, k + PN.length ≤ ts.length ∧ Mat ts PN k) → rv = Value.null)
def Expd (ti pi : Int32) (wt wp : Addr) (ev : Value) : Prop := (¬ (ti = (0 : Int32)) → pi = (0 : Int32) → ev = .ref wt) ∧ (ti = (0 : Int32) → ¬ (pi = (0 : Int32)) → ev = .ref wp) ∧ (ti = (0 : Int32) → pi = (0 : Int32) → ev = .null) ∧ (¬ (ti = (0 : Int32)) → ¬ (pi = (0 : Int32)) → ev = .null)
theorem own_hrv_tp {a b c d e f : Int32} {X Y : List Int32} {ti pi : Int32} {wt wp : Addr} {ev : Value} (ht : (¬ (ti = (0 : Int32)) → X = TN) ∧ (ti = (0 : Int32) → Ed TN X)) (hp : (¬ (pi = (0 : Int32)) → Y = PN) ∧ (pi = (0 : Int32) → Ed PN Y)) (ax : ∀ x ∈ X, Ch x) (ay : ∀ x ∈ Y, Ch x) (he : Expd ti pi wt wp ev) : HRv (text2 a b c d e f (X.map b8) (Y.map b8)) wt wp ev := by
  have ex : X.map b8 = TN ∨ Ed TN (X.map b8) := by
    by_cases h : ti = (0 : Int32)
    · exact Or.inr (own_edb (by decide) (by decide) ax (ht.2 h))
    · exact Or.inl (by rw [ht.1 h]; decide)
  have ey : Y.map b8 = PN ∨ Ed PN (Y.map b8) := by
    by_cases h : pi = (0 : Int32)
    · exact Or.inr (own_edb (by decide) (by decide) ay (hp.2 h))
    · exact Or.inl (by rw [hp.1 h]; decide)
  have L := law_tp (a := a) (b := b) (c := c) (d := d) (e := e) (f := f) ex ey
  obtain ⟨e1, e2, e3, e4⟩ := he
  by_cases h1 : ti = (0 : Int32)
  · have T0 := L.1 (own_edb (by decide) (by decide) ax (ht.2 h1))
    by_cases h2 : pi = (0 : Int32)
    · have P0 := L.2.2.1 (own_edb (by decide) (by decide) ay (hp.2 h2))
      exact ⟨fun ⟨k, q1, q2⟩ _ => absurd q2 (T0 k q1), fun _ ⟨k, q1, q2⟩ => absurd q2 (P0 k q1), fun ⟨k, q1, q2⟩ _ => absurd q2 (T0 k q1), fun _ _ => e3 h1 h2⟩
    · have P1 := L.2.2.2 (by rw [hp.1 h2]; decide)
      exact ⟨fun ⟨k, q1, q2⟩ _ => absurd q2 (T0 k q1), fun _ _ => e2 h1 h2, fun ⟨k, q1, q2⟩ _ => absurd q2 (T0 k q1), fun _ h => absurd P1 h⟩
  · have T1 := L.2.1 (by rw [ht.1 h1]; decide)
    by_cases h2 : pi = (0 : Int32)
    · have P0 := L.2.2.1 (own_edb (by decide) (by decide) ay (hp.2 h2))
      exact ⟨fun _ _ => e1 h1 h2, fun h _ => absurd T1 h, fun _ ⟨k, q1, q2⟩ => absurd q2 (P0 k q1), fun h _ => absurd T1 h⟩
    · have P1 := L.2.2.2 (by rw [hp.1 h2]; decide)
      exact ⟨fun _ h => absurd P1 h, fun h _ => absurd T1 h, fun _ _ => e4 h1 h2, fun h _ => absurd T1 h⟩
theorem own_hrv_pt {a b c d e f : Int32} {X Y : List Int32} {ti pi : Int32} {wt wp : Addr} {ev : Value} (ht : (¬ (ti = (0 : Int32)) → X = TN) ∧ (ti = (0 : Int32) → Ed TN X)) (hp : (¬ (pi = (0 : Int32)) → Y = PN) ∧ (pi = (0 : Int32) → Ed PN Y)) (ax : ∀ x ∈ X, Ch x) (ay : ∀ x ∈ Y, Ch x) (he : Expd ti pi wt wp ev) : HRv (text2 a b c d e f (Y.map b8) (X.map b8)) wt wp ev := by
  have ex : X.map b8 = TN ∨ Ed TN (X.map b8) := by
    by_cases h : ti = (0 : Int32)
    · exact Or.inr (own_edb (by decide) (by decide) ax (ht.2 h))
    · exact Or.inl (by rw [ht.1 h]; decide)
  have ey : Y.map b8 = PN ∨ Ed PN (Y.map b8) := by
    by_cases h : pi = (0 : Int32)
    · exact Or.inr (own_edb (by decide) (by decide) ay (hp.2 h))
    · exact Or.inl (by rw [hp.1 h]; decide)
  have L := law_pt (a := a) (b := b) (c := c) (d := d) (e := e) (f := f) ex ey
  obtain ⟨e1, e2, e3, e4⟩ := he
  by_cases h1 : ti = (0 : Int32)
  · have T0 := L.1 (own_edb (by decide) (by decide) ax (ht.2 h1))
    by_cases h2 : pi = (0 : Int32)
    · have P0 := L.2.2.1 (own_edb (by decide) (by decide) ay (hp.2 h2))
      exact ⟨fun ⟨k, q1, q2⟩ _ => absurd q2 (T0 k q1), fun _ ⟨k, q1, q2⟩ => absurd q2 (P0 k q1), fun ⟨k, q1, q2⟩ _ => absurd q2 (T0 k q1), fun _ _ => e3 h1 h2⟩
    · have P1 := L.2.2.2 (by rw [hp.1 h2]; decide)
      exact ⟨fun ⟨k, q1, q2⟩ _ => absurd q2 (T0 k q1), fun _ _ => e2 h1 h2, fun ⟨k, q1, q2⟩ _ => absurd q2 (T0 k q1), fun _ h => absurd P1 h⟩
  · have T1 := L.2.1 (by rw [ht.1 h1]; decide)
    by_cases h2 : pi = (0 : Int32)
    · have P0 := L.2.2.1 (own_edb (by decide) (by decide) ay (hp.2 h2))
      exact ⟨fun _ _ => e1 h1 h2, fun h _ => absurd T1 h, fun _ ⟨k, q1, q2⟩ => absurd q2 (P0 k q1), fun h _ => absurd T1 h⟩
    · have P1 := L.2.2.2 (by rw [hp.1 h2]; decide)
      exact ⟨fun _ h => absurd P1 h, fun h _ => absurd T1 h, fun _ _ => e4 h1 h2, fun h _ => absurd T1 h⟩
theorem d9_0 : decode prog_21_method_5_code 0 = .ok (.aload_n 0, 1) := by decide +kernel
theorem d9_1 : decode prog_21_method_5_code 1 = .ok (.getstatic 51, 3) := by decide +kernel
theorem d9_4 : decode prog_21_method_5_code 4 = .ok (.invokevirtual 13, 3) := by decide +kernel
theorem d9_7 : decode prog_21_method_5_code 7 = .ok (.invokevirtual 69, 3) := by decide +kernel
theorem pd_10 : parseMethodDescriptor "(Ljava/lang/CharSequence;)Z" = some ⟨[(.object "java/lang/CharSequence")], some .boolean⟩ := by decide +kernel
theorem d9_10 : decode prog_21_method_5_code 10 = .ok (.istore_n 1, 1) := by decide +kernel
theorem d9_11 : decode prog_21_method_5_code 11 = .ok (.aload_n 0, 1) := by decide +kernel
theorem d9_12 : decode prog_21_method_5_code 12 = .ok (.getstatic 63, 3) := by decide +kernel
theorem d9_15 : decode prog_21_method_5_code 15 = .ok (.invokevirtual 13, 3) := by decide +kernel
theorem d9_18 : decode prog_21_method_5_code 18 = .ok (.invokevirtual 69, 3) := by decide +kernel
theorem d9_21 : decode prog_21_method_5_code 21 = .ok (.istore_n 2, 1) := by decide +kernel
theorem d9_22 : decode prog_21_method_5_code 22 = .ok (.aconst_null, 1) := by decide +kernel
theorem d9_23 : decode prog_21_method_5_code 23 = .ok (.astore_n 3, 1) := by decide +kernel
theorem d9_24 : decode prog_21_method_5_code 24 = .ok (.iload_n 1, 1) := by decide +kernel
theorem d9_25 : decode prog_21_method_5_code 25 = .ok (.ifCond .eq 14, 3) := by decide +kernel
theorem d9_39 : decode prog_21_method_5_code 39 = .ok (.iload_n 2, 1) := by decide +kernel
theorem d9_40 : decode prog_21_method_5_code 40 = .ok (.ifCond .eq 11, 3) := by decide +kernel
theorem d9_51 : decode prog_21_method_5_code 51 = .ok (.aload_n 3, 1) := by decide +kernel
theorem d9_52 : decode prog_21_method_5_code 52 = .ok (.areturn, 1) := by decide +kernel
theorem d9_43 : decode prog_21_method_5_code 43 = .ok (.iload_n 1, 1) := by decide +kernel
theorem d9_44 : decode prog_21_method_5_code 44 = .ok (.ifCond .ne 7, 3) := by decide +kernel
theorem d9_47 : decode prog_21_method_5_code 47 = .ok (.getstatic 63, 3) := by decide +kernel
theorem d9_50 : decode prog_21_method_5_code 50 = .ok (.astore_n 3, 1) := by decide +kernel
theorem d9_28 : decode prog_21_method_5_code 28 = .ok (.iload_n 2, 1) := by decide +kernel
theorem d9_29 : decode prog_21_method_5_code 29 = .ok (.ifCond .ne 10, 3) := by decide +kernel
theorem d9_32 : decode prog_21_method_5_code 32 = .ok (.getstatic 51, 3) := by decide +kernel
theorem d9_35 : decode prog_21_method_5_code 35 = .ok (.astore_n 3, 1) := by decide +kernel
theorem d9_36 : decode prog_21_method_5_code 36 = .ok (.goto 15, 3) := by decide +kernel
theorem pn_com_example_ulinzi_ulinzi_model_OwnerFilter : plainName "com/example/ulinzi/ulinzi/model/OwnerFilter" = true := by first | (simp [plainName, overriddenIn]; done) | decide +kernel
theorem ef_rm9 (m : MethodId) (a0 : Addr) : entryFrame m #[(.ref a0)] 4 = mkF m 0 #[.val (.ref a0), .unset, .unset, .unset] [] := by first | (simp [entryFrame, mkF, argsToLocals, Value.category]; done) | rfl
def Q_rm9 (Z : State) (a0 : Addr) (ts : List Int32) (vt : List Value) (ka : ClassId) (va : Addr) (rv : Value) (wt : Addr) (wp : Addr) (tt : Addr) (tp : Addr) (vbt : Addr) (vbp : Addr) (kbt : ClassId) (kbp : ClassId) (cs : Int32) (h0 : Heap) (n0 : Nat) (v : Option Value) (h : Heap) (L : List Loc) : Prop := v = some rv ∧ Fr n0 L ∧ h = h0
set_option maxRecDepth 65536 in
set_option maxHeartbeats 40000000 in
theorem rm9 (l : Launch) (Z : State) (av0 : Array Value) (hw : ∀ d ∈ tables_1, d.before av0 Z = true) (ws : List Jvm.Cond) (a0 : Addr) (ts : List Int32) (vt : List Value) (ka : ClassId) (va : Addr) (rv : Value) (wt : Addr) (wp : Addr) (tt : Addr) (tp : Addr) (vbt : Addr) (vbp : Addr) (kbt : ClassId) (kbp : ClassId) (cs : Int32) (h0 : Heap) (n0 : Nat) (Z0 : n0 ≤ h0.size) (p0_O : Old Z n0 h0) (p1_S : Sta Z Z.heap "java/lang/String" "COMPACT_STRINGS" "Z" (.int cs)) (hcs : ¬ (cs = (0 : Int32))) (p3_S : Sta Z Z.heap "com/example/ulinzi/ulinzi/model/OwnerName" "TENANT" "Lcom/example/ulinzi/ulinzi/model/OwnerName;" (.ref wt)) (p4_S : Sta Z Z.heap "com/example/ulinzi/ulinzi/model/OwnerName" "PROJECT" "Lcom/example/ulinzi/ulinzi/model/OwnerName;" (.ref wp)) (p5_E : Exa Z h0 wt "com/example/ulinzi/ulinzi/model/OwnerName") (p6_F : Fld Z h0 wt "com/example/ulinzi/ulinzi/model/OwnerName" "text" "Ljava/lang/String;" (.ref tt)) (p7_E : Exa Z h0 tt "java/lang/String") (p8_F : Fld Z h0 tt "java/lang/String" "coder" "B" (.int 0)) (p9_F : Fld Z h0 tt "java/lang/String" "value" "[B" (.ref vbt)) (p10_A : Arv Z h0 vbt kbt .byte (9 : Int32) [(.int 116), (.int 101), (.int 110), (.int 97), (.int 110), (.int 116), (.int 95), (.int 105), (.int 100)] (.int 0)) (p11_E : Exa Z h0 wp "com/example/ulinzi/ulinzi/model/OwnerName") (p12_F : Fld Z h0 wp "com/example/ulinzi/ulinzi/model/OwnerName" "text" "Ljava/lang/String;" (.ref tp)) (p13_E : Exa Z h0 tp "java/lang/String") (p14_F : Fld Z h0 tp "java/lang/String" "coder" "B" (.int 0)) (p15_F : Fld Z h0 tp "java/lang/String" "value" "[B" (.ref vbp)) (p16_A : Arv Z h0 vbp kbp .byte (10 : Int32) [(.int 112), (.int 114), (.int 111), (.int 106), (.int 101), (.int 99), (.int 116), (.int 95), (.int 105), (.int 100)] (.int 0)) (p17_E : Exa Z h0 a0 "java/lang/String") (p18_F : Fld Z h0 a0 "java/lang/String" "coder" "B" (.int 0)) (p19_F : Fld Z h0 a0 "java/lang/String" "value" "[B" (.ref va)) (p20_A : Arv Z h0 va ka .byte (25 : Int32) vt (.int 0)) (hts : vt = ts.map Value.int) (hlt : ts.length = 25) (p23_r : rv.isRef = true) (hrv : HRv ts wt wp rv) :
    MetFree l (⟨"com/example/ulinzi/ulinzi/model/OwnerFilter", "writtenIn", "(Ljava/lang/String;)Lcom/example/ulinzi/ulinzi/model/OwnerName;"⟩ : MethodName) (head1 (Jvm.Cond.code (⟨"com/example/ulinzi/ulinzi/model/OwnerFilter", "writtenIn", "(Ljava/lang/String;)Lcom/example/ulinzi/ulinzi/model/OwnerName;"⟩ : MethodName) prog_21_method_5_code 4 (some (.object "com/example/ulinzi/ulinzi/model/OwnerName")) :: ws) ({ frames := 5, cells := 0, slots := 0, locals := 122 } : Room)) (fun a U => a = #[(.ref a0)] ∧ Z.Warmed39 U.vm ∧ U.heap = h0) (fun _ _ _ _ _ => True) (fun _ U o U' => ∃ v L, o = .returned v ∧ Q_rm9 Z a0 ts vt ka va rv wt wp tt tp vbt vbp kbt kbp cs h0 n0 v U'.heap L ∧ FrameEnd U o U' L ({ frames := 5, cells := 0, slots := 0, locals := 122 } : Room).cells ({ frames := 5, cells := 0, slots := 0, locals := 122 } : Room).slots) := by
  refine MetFree.of_bodySF (plainFor_of_name pn_com_example_ulinzi_ulinzi_model_OwnerFilter) hisR ?_
  intro p e s m args below meth c s₁ Bd hml0 hP hK
  obtain ⟨rfl, hZ, hh⟩ := hP
  have hx := Bd.exec
  have hby := Bd.bytes
  have hml : c.maxLocals = 4 := hml0
  have hown : s.vm.findClass "com/example/ulinzi/ulinzi/model/OwnerFilter" = some m.cls := findClass_of_methodNamed Bd.named
  have hnm := (name_of_methodNamed Bd.named Bd.method).1
  have X0 : Stand p l e ({ frames := 5, cells := 0, slots := 0, locals := 122 } : Room) s m #[(.ref a0)] below meth c s₁ [] 0 0 := Stand.of_body Bd
  have e0 : s₁.heap = h0 := by rw [← hh, Bd.state]; rfl
  have N0 := Fr.nil n0
  have pre0 : ∀ tz_, Steps p.tables e below (s₁.setTop (mkF m 0 #[.val (.ref a0), .unset, .unset, .unset] [])) tz_ → Steps p.tables e below (s₁.setTop (entryFrame m #[(.ref a0)] 4)) tz_ := fun tz_ kz_ => castTop (ef_rm9 m a0) kz_
  obtain ⟨T31, X31, e31, st31⟩ := getS2 X0 hx hZ hown (host := "") (Or.inl (hw _ (mg (i := 42) rfl))) Via.refl e0 (p3_S.ext p0_O.2) (g := (mkF m 1 #[.val (.ref a0), .unset, .unset, .unset] [(.ref a0)])) rfl (hb hby d9_1)
  -- pc 4: OwnerName.text
  obtain ⟨cq32, kq32, q32a, q32b, q32c⟩ := isOf hZ e31 p5_E
  obtain ⟨_, _, ⟨T32, L32, k32, n32⟩, -, X32, ⟨Lc32, hQ32, l32, y32, z32⟩, st32⟩ := X31.virtualBack hx (y := (⟨"com/example/ulinzi/ulinzi/model/OwnerName", "text", "()Ljava/lang/String;"⟩ : MethodName)) (z := (⟨"com/example/ulinzi/ulinzi/model/OwnerName", "text", "()Ljava/lang/String;"⟩ : MethodName)) hown (mvT hZ (hw _ (mg (i := 45) rfl))) (mvT hZ (hw _ (mg (i := 46) rfl))) (notFace_of_selects (args := #[]) (mvT hZ (hw _ (mg (i := 48) rfl)))) (mvT hZ (hw _ (mg (i := 48) rfl))) (mvT hZ (hw _ (mg (i := 47) rfl))) (by decide) (backOf (W := 1) (rm10 l Z av0 hw [] wt tt h0 n0 (own_le p0_O) p6_F) hZ (hw _ (mg (i := 49) rfl)) (hw _ (mg (i := 43) rfl)) (by decide) (by decide)) q32a q32c (g := (mkF m 4 #[.val (.ref a0), .unset, .unset, .unset] [(.ref wt), (.ref a0)])) rfl (by rw [hml]; rfl) (Steps.refl _) (argsL := []) (rest := [(.ref a0)]) (lenOf pd_9 rfl) rfl (by show 2 * 0 + _ ≤ _; exact Nat.le_of_eq rfl) (hb hby d9_4) (fun vmx hWx => ⟨rfl, e31, (by decide : 0 + 0 ≤ _), (by decide : 0 + 0 ≤ _)⟩)
  dsimp only [Pt.U, Pt.locs, Pt.cells, Pt.slots] at X32 l32 y32 z32 st32 hQ32
  subst l32 y32 z32
  obtain ⟨rv32, Nq32, Kq32⟩ := hQ32
  subst rv32
  have N32 := Fr.app N0 Nq32
  -- pc 7: String.contains
  obtain ⟨cq33, kq33, q33a, q33b, q33c⟩ := isOf hZ Kq32 p17_E
  obtain ⟨_, _, ⟨T33, L33, k33, n33⟩, -, X33, ⟨Lc33, hQ33, l33, y33, z33⟩, st33⟩ := X32.virtualBack hx (y := (⟨"java/lang/String", "contains", "(Ljava/lang/CharSequence;)Z"⟩ : MethodName)) (z := (⟨"java/lang/String", "contains", "(Ljava/lang/CharSequence;)Z"⟩ : MethodName)) hown (mvT hZ (hw _ (mg (i := 52) rfl))) (mvT hZ (hw _ (mg (i := 53) rfl))) (notFace_of_selects (args := #[]) (mvT hZ (hw _ (mg (i := 55) rfl)))) (mvT hZ (hw _ (mg (i := 55) rfl))) (mvT hZ (hw _ (mg (i := 54) rfl))) (by decide) (backOf (W := 0) (ct_9 l Z av0 hw [] a0 tt ts TN vt [(.int 116), (.int 101), (.int 110), (.int 97), (.int 110), (.int 116), (.int 95), (.int 105), (.int 100)] ka kbt va vbt cs h0 n0 (own_le p0_O) p0_O p1_S (hcs : ¬ (cs = (0 : Int32))) p18_F p19_F p17_E p8_F p9_F p7_E p20_A p10_A (hts : vt = ts.map Value.int) (hlt : ts.length = 25) (rfl : [(.int 116), (.int 101), (.int 110), (.int 97), (.int 110), (.int 116), (.int 95), (.int 105), (.int 100)] = TN.map Value.int) (rfl : TN.length = 9)) hZ (hw _ (mg (i := 56) rfl)) (hw _ (mg (i := 11) rfl)) (by decide) (by decide)) q33a q33c (g := (mkF m 7 #[.val (.ref a0), .unset, .unset, .unset] [(.ref tt), (.ref a0)])) rfl (by rw [hml]; rfl) (Steps.refl _) (argsL := [(.ref tt)]) (rest := []) (lenOf pd_10 rfl) rfl (by show 2 * 0 + _ ≤ _; exact Nat.le_of_eq rfl) (hb hby d9_7) (fun vmx hWx => ⟨rfl, Kq32, (by decide : 0 + 0 ≤ _), (by decide : 0 + 0 ≤ _)⟩)
  dsimp only [Pt.U, Pt.locs, Pt.cells, Pt.slots] at X33 l33 y33 z33 st33 hQ33
  subst l33 y33 z33
  obtain ⟨r_33, rv33, Nq33, Kq33, u33_0⟩ := hQ33
  subst rv33
  have N33 := Fr.app N32 Nq33
  have pre34 : ∀ tz_, Steps p.tables e below (T33.setTop (mkF m 10 #[.val (.ref a0), .unset, .unset, .unset] [(.int r_33)])) tz_ → Steps p.tables e below (s₁.setTop (entryFrame m #[(.ref a0)] 4)) tz_ := fun tz_ kk => pre0 tz_ (by
    show Steps p.tables e below (s₁.setTop (mkF m 0 #[.val (.ref a0), .unset, .unset, .unset] [])) _
    refine XS.aloadN X0.here hx rfl (hb hby d9_0) rfl rfl ?_
    show Steps p.tables e below (s₁.setTop (mkF m 1 #[.val (.ref a0), .unset, .unset, .unset] [(.ref a0)])) _
    refine st31 _ ?_
    show Steps p.tables e below (T31.setTop (mkF m 4 #[.val (.ref a0), .unset, .unset, .unset] [(.ref wt), (.ref a0)])) _
    refine st32.trans ?_
    show Steps p.tables e below (T32.setTop (mkF m 7 #[.val (.ref a0), .unset, .unset, .unset] [(.ref tt), (.ref a0)])) _
    refine st33.trans ?_
    exact kk)
  rcases u33_0 with ⟨hz33, hx33⟩ | ⟨hz33, hx33⟩
  · skip
    subst hz33
    obtain ⟨T35, X35, e35, st35⟩ := getS2 X33 hx hZ hown (host := "") (Or.inl (hw _ (mg (i := 88) rfl))) Via.refl Kq33 (p4_S.ext p0_O.2) (g := (mkF m 12 #[.val (.ref a0), .val (.int 0), .unset, .unset] [(.ref a0)])) rfl (hb hby d9_12)
    -- pc 15: OwnerName.text
    obtain ⟨cq36, kq36, q36a, q36b, q36c⟩ := isOf hZ e35 p11_E
    obtain ⟨_, _, ⟨T36, L36, k36, n36⟩, -, X36, ⟨Lc36, hQ36, l36, y36, z36⟩, st36⟩ := X35.virtualBack hx (y := (⟨"com/example/ulinzi/ulinzi/model/OwnerName", "text", "()Ljava/lang/String;"⟩ : MethodName)) (z := (⟨"com/example/ulinzi/ulinzi/model/OwnerName", "text", "()Ljava/lang/String;"⟩ : MethodName)) hown (mvT hZ (hw _ (mg (i := 45) rfl))) (mvT hZ (hw _ (mg (i := 46) rfl))) (notFace_of_selects (args := #[]) (mvT hZ (hw _ (mg (i := 48) rfl)))) (mvT hZ (hw _ (mg (i := 48) rfl))) (mvT hZ (hw _ (mg (i := 47) rfl))) (by decide) (backOf (W := 1) (rm10 l Z av0 hw [] wp tp h0 n0 (own_le p0_O) p12_F) hZ (hw _ (mg (i := 49) rfl)) (hw _ (mg (i := 43) rfl)) (by decide) (by decide)) q36a q36c (g := (mkF m 15 #[.val (.ref a0), .val (.int 0), .unset, .unset] [(.ref wp), (.ref a0)])) rfl (by rw [hml]; rfl) (Steps.refl _) (argsL := []) (rest := [(.ref a0)]) (lenOf pd_9 rfl) rfl (by show 2 * 0 + _ ≤ _; exact Nat.le_of_eq rfl) (hb hby d9_15) (fun vmx hWx => ⟨rfl, e35, (by decide : 0 + 0 ≤ _), (by decide : 0 + 0 ≤ _)⟩)
    dsimp only [Pt.U, Pt.locs, Pt.cells, Pt.slots] at X36 l36 y36 z36 st36 hQ36
    subst l36 y36 z36
    obtain ⟨rv36, Nq36, Kq36⟩ := hQ36
    subst rv36
    have N36 := Fr.app N33 Nq36
    -- pc 18: String.contains
    obtain ⟨cq37, kq37, q37a, q37b, q37c⟩ := isOf hZ Kq36 p17_E
    obtain ⟨_, _, ⟨T37, L37, k37, n37⟩, -, X37, ⟨Lc37, hQ37, l37, y37, z37⟩, st37⟩ := X36.virtualBack hx (y := (⟨"java/lang/String", "contains", "(Ljava/lang/CharSequence;)Z"⟩ : MethodName)) (z := (⟨"java/lang/String", "contains", "(Ljava/lang/CharSequence;)Z"⟩ : MethodName)) hown (mvT hZ (hw _ (mg (i := 52) rfl))) (mvT hZ (hw _ (mg (i := 53) rfl))) (notFace_of_selects (args := #[]) (mvT hZ (hw _ (mg (i := 55) rfl)))) (mvT hZ (hw _ (mg (i := 55) rfl))) (mvT hZ (hw _ (mg (i := 54) rfl))) (by decide) (backOf (W := 0) (ct_10 l Z av0 hw [] a0 tp ts PN vt [(.int 112), (.int 114), (.int 111), (.int 106), (.int 101), (.int 99), (.int 116), (.int 95), (.int 105), (.int 100)] ka kbp va vbp cs h0 n0 (own_le p0_O) p0_O p1_S (hcs : ¬ (cs = (0 : Int32))) p18_F p19_F p17_E p14_F p15_F p13_E p20_A p16_A (hts : vt = ts.map Value.int) (hlt : ts.length = 25) (rfl : [(.int 112), (.int 114), (.int 111), (.int 106), (.int 101), (.int 99), (.int 116), (.int 95), (.int 105), (.int 100)] = PN.map Value.int) (rfl : PN.length = 10)) hZ (hw _ (mg (i := 56) rfl)) (hw _ (mg (i := 11) rfl)) (by decide) (by decide)) q37a q37c (g := (mkF m 18 #[.val (.ref a0), .val (.int 0), .unset, .unset] [(.ref tp), (.ref a0)])) rfl (by rw [hml]; rfl) (Steps.refl _) (argsL := [(.ref tp)]) (rest := []) (lenOf pd_10 rfl) rfl (by show 2 * 0 + _ ≤ _; exact Nat.le_of_eq rfl) (hb hby d9_18) (fun vmx hWx => ⟨rfl, Kq36, (by decide : 0 + 0 ≤ _), (by decide : 0 + 0 ≤ _)⟩)
    dsimp only [Pt.U, Pt.locs, Pt.cells, Pt.slots] at X37 l37 y37 z37 st37 hQ37
    subst l37 y37 z37
    obtain ⟨r_37, rv37, Nq37, Kq37, u37_0⟩ := hQ37
    subst rv37
    have N37 := Fr.app N36 Nq37
    have pre38 : ∀ tz_, Steps p.tables e below (T37.setTop (mkF m 21 #[.val (.ref a0), .val (.int 0), .unset, .unset] [(.int r_37)])) tz_ → Steps p.tables e below (s₁.setTop (entryFrame m #[(.ref a0)] 4)) tz_ := fun tz_ kk => pre34 tz_ (by
      show Steps p.tables e below (T33.setTop (mkF m 10 #[.val (.ref a0), .unset, .unset, .unset] [(.int 0)])) _
      refine XS.istoreN X33.here hx rfl (hb hby d9_10) rfl (l' := #[.val (.ref a0), .val (.int 0), .unset, .unset]) rfl ?_
      refine XS.aloadN X33.here hx rfl (hb hby d9_11) rfl rfl ?_
      show Steps p.tables e below (T33.setTop (mkF m 12 #[.val (.ref a0), .val (.int 0), .unset, .unset] [(.ref a0)])) _
      refine st35 _ ?_
      show Steps p.tables e below (T35.setTop (mkF m 15 #[.val (.ref a0), .val (.int 0), .unset, .unset] [(.ref wp), (.ref a0)])) _
      refine st36.trans ?_
      show Steps p.tables e below (T36.setTop (mkF m 18 #[.val (.ref a0), .val (.int 0), .unset, .unset] [(.ref tp), (.ref a0)])) _
      refine st37.trans ?_
      exact kk)
    rcases u37_0 with ⟨hz37, hx37⟩ | ⟨hz37, hx37⟩
    · skip
      subst hz37
      obtain ⟨fs, hrL, hrun, hended, hW, hsame⟩ := X37.leave (v := some .null) (fun h => by rw [Bd.returns] at h; cases h)
      refine ⟨_, _, pre38 _ ?_, hrun, hended, _, _, rfl, ?_, ⟨_, rfl⟩, hW, hsame.mono (by decide) (by decide)⟩
      · show Steps p.tables e below (T37.setTop (mkF m 21 #[.val (.ref a0), .val (.int 0), .unset, .unset] [(.int 0)])) _
        refine XS.istoreN X37.here hx rfl (hb hby d9_21) rfl (l' := #[.val (.ref a0), .val (.int 0), .val (.int 0), .unset]) rfl ?_
        refine XS.aconstNull X37.here hx rfl (hb hby d9_22) ?_
        show Steps p.tables e below (T37.setTop (mkF m 23 #[.val (.ref a0), .val (.int 0), .val (.int 0), .unset] [.null])) _
        refine XS.astoreN X37.here hx rfl (hb hby d9_23) rfl rfl (l' := #[.val (.ref a0), .val (.int 0), .val (.int 0), .val .null]) rfl ?_
        refine XS.iloadN X37.here hx rfl (hb hby d9_24) rfl ?_
        show Steps p.tables e below (T37.setTop (mkF m 25 #[.val (.ref a0), .val (.int 0), .val (.int 0), .val .null] [(.int 0)])) _
        refine XS.ifYes X37.here hx rfl (pc0 := 25) (pc' := 39) rfl (hb hby d9_25) rfl ((if0 _ _).trans (teq (by decide : (0 : Int32) = (0 : Int32))).1) (by decide) (by decide) ?_
        refine XS.iloadN X37.here hx rfl (hb hby d9_39) rfl ?_
        show Steps p.tables e below (T37.setTop (mkF m 40 #[.val (.ref a0), .val (.int 0), .val (.int 0), .val .null] [(.int 0)])) _
        refine XS.ifYes X37.here hx rfl (pc0 := 40) (pc' := 51) rfl (hb hby d9_40) rfl ((if0 _ _).trans (teq (by decide : (0 : Int32) = (0 : Int32))).1) (by decide) (by decide) ?_
        refine XS.aloadN X37.here hx rfl (hb hby d9_51) rfl rfl ?_
        show Steps p.tables e below (T37.setTop (mkF m 52 #[.val (.ref a0), .val (.int 0), .val (.int 0), .val .null] [.null])) _
        exact retOut X37 hx Bd.returns rfl (Or.inr (Or.inr (Or.inr (Or.inr ⟨rfl, rfl, rfl⟩)))) (hb hby d9_52) hrL
      · show Q_rm9 _ _ _ _ _ _ _ _ _ _ _ _ _ _ _ _ _ _ _  T37.heap _
        rw [Kq37]
        exact ⟨congrArg some (hrv.2.2.2 (fun q => let ⟨k, h1, h2⟩ := q; hx33 k h1 h2) (fun q => let ⟨k, h1, h2⟩ := q; hx37 k h1 h2)).symm, N37, rfl⟩
    · skip
      subst hz37
      obtain ⟨T39, X39, e39, st39⟩ := getS2 X37 hx hZ hown (host := "") (Or.inl (hw _ (mg (i := 88) rfl))) Via.refl Kq37 (p4_S.ext p0_O.2) (g := (mkF m 47 #[.val (.ref a0), .val (.int 0), .val (.int 1), .val .null] [])) rfl (hb hby d9_47)
      obtain ⟨fs, hrL, hrun, hended, hW, hsame⟩ := X39.leave (v := some (.ref wp)) (fun h => by rw [Bd.returns] at h; cases h)
      refine ⟨_, _, pre38 _ ?_, hrun, hended, _, _, rfl, ?_, ⟨_, rfl⟩, hW, hsame.mono (by decide) (by decide)⟩
      · show Steps p.tables e below (T37.setTop (mkF m 21 #[.val (.ref a0), .val (.int 0), .unset, .unset] [(.int 1)])) _
        refine XS.istoreN X37.here hx rfl (hb hby d9_21) rfl (l' := #[.val (.ref a0), .val (.int 0), .val (.int 1), .unset]) rfl ?_
        show Steps p.tables e below (T37.setTop (mkF m 22 #[.val (.ref a0), .val (.int 0), .val (.int 1), .unset] [])) _
        refine XS.aconstNull X37.here hx rfl (hb hby d9_22) ?_
        refine XS.astoreN X37.here hx rfl (hb hby d9_23) rfl rfl (l' := #[.val (.ref a0), .val (.int 0), .val (.int 1), .val .null]) rfl ?_
        refine XS.iloadN X37.here hx rfl (hb hby d9_24) rfl ?_
        show Steps p.tables e below (T37.setTop (mkF m 25 #[.val (.ref a0), .val (.int 0), .val (.int 1), .val .null] [(.int 0)])) _
        refine XS.ifYes X37.here hx rfl (pc0 := 25) (pc' := 39) rfl (hb hby d9_25) rfl ((if0 _ _).trans (teq (by decide : (0 : Int32) = (0 : Int32))).1) (by decide) (by decide) ?_
        show Steps p.tables e below (T37.setTop (mkF m 39 #[.val (.ref a0), .val (.int 0), .val (.int 1), .val .null] [])) _
        refine XS.iloadN X37.here hx rfl (hb hby d9_39) rfl ?_
        show Steps p.tables e below (T37.setTop (mkF m 40 #[.val (.ref a0), .val (.int 0), .val (.int 1), .val .null] [(.int 1)])) _
        refine XS.ifNo X37.here hx rfl (hb hby d9_40) rfl ((if0 _ _).trans (feq (by decide : ¬ ((1 : Int32) = (0 : Int32)))).1) ?_
        refine XS.iloadN X37.here hx rfl (hb hby d9_43) rfl ?_
        show Steps p.tables e below (T37.setTop (mkF m 44 #[.val (.ref a0), .val (.int 0), .val (.int 1), .val .null] [(.int 0)])) _
        refine XS.ifNo X37.here hx rfl (hb hby d9_44) rfl ((if0 _ _).trans (teq (by decide : (0 : Int32) = (0 : Int32))).2) ?_
        show Steps p.tables e below (T37.setTop (mkF m 47 #[.val (.ref a0), .val (.int 0), .val (.int 1), .val .null] [])) _
        refine st39 _ ?_
        refine XS.astoreN X39.here hx rfl (hb hby d9_50) rfl rfl (l' := #[.val (.ref a0), .val (.int 0), .val (.int 1), .val (.ref wp)]) rfl ?_
        refine XS.aloadN X39.here hx rfl (hb hby d9_51) rfl rfl ?_
        show Steps p.tables e below (T39.setTop (mkF m 52 #[.val (.ref a0), .val (.int 0), .val (.int 1), .val (.ref wp)] [(.ref wp)])) _
        exact retOut X39 hx Bd.returns rfl (Or.inr (Or.inr (Or.inr (Or.inr ⟨rfl, rfl, rfl⟩)))) (hb hby d9_52) hrL
      · show Q_rm9 _ _ _ _ _ _ _ _ _ _ _ _ _ _ _ _ _ _ _  T39.heap _
        rw [e39]
        exact ⟨congrArg some (hrv.2.1 (fun q => let ⟨k, h1, h2⟩ := q; hx33 k h1 h2) hx37).symm, N37, rfl⟩
  · skip
    subst hz33
    obtain ⟨T40, X40, e40, st40⟩ := getS2 X33 hx hZ hown (host := "") (Or.inl (hw _ (mg (i := 88) rfl))) Via.refl Kq33 (p4_S.ext p0_O.2) (g := (mkF m 12 #[.val (.ref a0), .val (.int 1), .unset, .unset] [(.ref a0)])) rfl (hb hby d9_12)
    -- pc 15: OwnerName.text
    obtain ⟨cq41, kq41, q41a, q41b, q41c⟩ := isOf hZ e40 p11_E
    obtain ⟨_, _, ⟨T41, L41, k41, n41⟩, -, X41, ⟨Lc41, hQ41, l41, y41, z41⟩, st41⟩ := X40.virtualBack hx (y := (⟨"com/example/ulinzi/ulinzi/model/OwnerName", "text", "()Ljava/lang/String;"⟩ : MethodName)) (z := (⟨"com/example/ulinzi/ulinzi/model/OwnerName", "text", "()Ljava/lang/String;"⟩ : MethodName)) hown (mvT hZ (hw _ (mg (i := 45) rfl))) (mvT hZ (hw _ (mg (i := 46) rfl))) (notFace_of_selects (args := #[]) (mvT hZ (hw _ (mg (i := 48) rfl)))) (mvT hZ (hw _ (mg (i := 48) rfl))) (mvT hZ (hw _ (mg (i := 47) rfl))) (by decide) (backOf (W := 1) (rm10 l Z av0 hw [] wp tp h0 n0 (own_le p0_O) p12_F) hZ (hw _ (mg (i := 49) rfl)) (hw _ (mg (i := 43) rfl)) (by decide) (by decide)) q41a q41c (g := (mkF m 15 #[.val (.ref a0), .val (.int 1), .unset, .unset] [(.ref wp), (.ref a0)])) rfl (by rw [hml]; rfl) (Steps.refl _) (argsL := []) (rest := [(.ref a0)]) (lenOf pd_9 rfl) rfl (by show 2 * 0 + _ ≤ _; exact Nat.le_of_eq rfl) (hb hby d9_15) (fun vmx hWx => ⟨rfl, e40, (by decide : 0 + 0 ≤ _), (by decide : 0 + 0 ≤ _)⟩)
    dsimp only [Pt.U, Pt.locs, Pt.cells, Pt.slots] at X41 l41 y41 z41 st41 hQ41
    subst l41 y41 z41
    obtain ⟨rv41, Nq41, Kq41⟩ := hQ41
    subst rv41
    have N41 := Fr.app N33 Nq41
    -- pc 18: String.contains
    obtain ⟨cq42, kq42, q42a, q42b, q42c⟩ := isOf hZ Kq41 p17_E
    obtain ⟨_, _, ⟨T42, L42, k42, n42⟩, -, X42, ⟨Lc42, hQ42, l42, y42, z42⟩, st42⟩ := X41.virtualBack hx (y := (⟨"java/lang/String", "contains", "(Ljava/lang/CharSequence;)Z"⟩ : MethodName)) (z := (⟨"java/lang/String", "contains", "(Ljava/lang/CharSequence;)Z"⟩ : MethodName)) hown (mvT hZ (hw _ (mg (i := 52) rfl))) (mvT hZ (hw _ (mg (i := 53) rfl))) (notFace_of_selects (args := #[]) (mvT hZ (hw _ (mg (i := 55) rfl)))) (mvT hZ (hw _ (mg (i := 55) rfl))) (mvT hZ (hw _ (mg (i := 54) rfl))) (by decide) (backOf (W := 0) (ct_10 l Z av0 hw [] a0 tp ts PN vt [(.int 112), (.int 114), (.int 111), (.int 106), (.int 101), (.int 99), (.int 116), (.int 95), (.int 105), (.int 100)] ka kbp va vbp cs h0 n0 (own_le p0_O) p0_O p1_S (hcs : ¬ (cs = (0 : Int32))) p18_F p19_F p17_E p14_F p15_F p13_E p20_A p16_A (hts : vt = ts.map Value.int) (hlt : ts.length = 25) (rfl : [(.int 112), (.int 114), (.int 111), (.int 106), (.int 101), (.int 99), (.int 116), (.int 95), (.int 105), (.int 100)] = PN.map Value.int) (rfl : PN.length = 10)) hZ (hw _ (mg (i := 56) rfl)) (hw _ (mg (i := 11) rfl)) (by decide) (by decide)) q42a q42c (g := (mkF m 18 #[.val (.ref a0), .val (.int 1), .unset, .unset] [(.ref tp), (.ref a0)])) rfl (by rw [hml]; rfl) (Steps.refl _) (argsL := [(.ref tp)]) (rest := []) (lenOf pd_10 rfl) rfl (by show 2 * 0 + _ ≤ _; exact Nat.le_of_eq rfl) (hb hby d9_18) (fun vmx hWx => ⟨rfl, Kq41, (by decide : 0 + 0 ≤ _), (by decide : 0 + 0 ≤ _)⟩)
    dsimp only [Pt.U, Pt.locs, Pt.cells, Pt.slots] at X42 l42 y42 z42 st42 hQ42
    subst l42 y42 z42
    obtain ⟨r_42, rv42, Nq42, Kq42, u42_0⟩ := hQ42
    subst rv42
    have N42 := Fr.app N41 Nq42
    have pre43 : ∀ tz_, Steps p.tables e below (T42.setTop (mkF m 21 #[.val (.ref a0), .val (.int 1), .unset, .unset] [(.int r_42)])) tz_ → Steps p.tables e below (s₁.setTop (entryFrame m #[(.ref a0)] 4)) tz_ := fun tz_ kk => pre34 tz_ (by
      show Steps p.tables e below (T33.setTop (mkF m 10 #[.val (.ref a0), .unset, .unset, .unset] [(.int 1)])) _
      refine XS.istoreN X33.here hx rfl (hb hby d9_10) rfl (l' := #[.val (.ref a0), .val (.int 1), .unset, .unset]) rfl ?_
      refine XS.aloadN X33.here hx rfl (hb hby d9_11) rfl rfl ?_
      show Steps p.tables e below (T33.setTop (mkF m 12 #[.val (.ref a0), .val (.int 1), .unset, .unset] [(.ref a0)])) _
      refine st40 _ ?_
      show Steps p.tables e below (T40.setTop (mkF m 15 #[.val (.ref a0), .val (.int 1), .unset, .unset] [(.ref wp), (.ref a0)])) _
      refine st41.trans ?_
      show Steps p.tables e below (T41.setTop (mkF m 18 #[.val (.ref a0), .val (.int 1), .unset, .unset] [(.ref tp), (.ref a0)])) _
      refine st42.trans ?_
      exact kk)
    rcases u42_0 with ⟨hz42, hx42⟩ | ⟨hz42, hx42⟩
    · skip
      subst hz42
      obtain ⟨T44, X44, e44, st44⟩ := getS2 X42 hx hZ hown (host := "") (Or.inl (hw _ (mg (i := 42) rfl))) Via.refl Kq42 (p3_S.ext p0_O.2) (g := (mkF m 32 #[.val (.ref a0), .val (.int 1), .val (.int 0), .val .null] [])) rfl (hb hby d9_32)
      obtain ⟨fs, hrL, hrun, hended, hW, hsame⟩ := X44.leave (v := some (.ref wt)) (fun h => by rw [Bd.returns] at h; cases h)
      refine ⟨_, _, pre43 _ ?_, hrun, hended, _, _, rfl, ?_, ⟨_, rfl⟩, hW, hsame.mono (by decide) (by decide)⟩
      · show Steps p.tables e below (T42.setTop (mkF m 21 #[.val (.ref a0), .val (.int 1), .unset, .unset] [(.int 0)])) _
        refine XS.istoreN X42.here hx rfl (hb hby d9_21) rfl (l' := #[.val (.ref a0), .val (.int 1), .val (.int 0), .unset]) rfl ?_
        refine XS.aconstNull X42.here hx rfl (hb hby d9_22) ?_
        refine XS.astoreN X42.here hx rfl (hb hby d9_23) rfl rfl (l' := #[.val (.ref a0), .val (.int 1), .val (.int 0), .val .null]) rfl ?_
        show Steps p.tables e below (T42.setTop (mkF m 24 #[.val (.ref a0), .val (.int 1), .val (.int 0), .val .null] [])) _
        refine XS.iloadN X42.here hx rfl (hb hby d9_24) rfl ?_
        show Steps p.tables e below (T42.setTop (mkF m 25 #[.val (.ref a0), .val (.int 1), .val (.int 0), .val .null] [(.int 1)])) _
        refine XS.ifNo X42.here hx rfl (hb hby d9_25) rfl ((if0 _ _).trans (feq (by decide : ¬ ((1 : Int32) = (0 : Int32)))).1) ?_
        refine XS.iloadN X42.here hx rfl (hb hby d9_28) rfl ?_
        show Steps p.tables e below (T42.setTop (mkF m 29 #[.val (.ref a0), .val (.int 1), .val (.int 0), .val .null] [(.int 0)])) _
        refine XS.ifNo X42.here hx rfl (hb hby d9_29) rfl ((if0 _ _).trans (teq (by decide : (0 : Int32) = (0 : Int32))).2) ?_
        show Steps p.tables e below (T42.setTop (mkF m 32 #[.val (.ref a0), .val (.int 1), .val (.int 0), .val .null] [])) _
        refine st44 _ ?_
        refine XS.astoreN X44.here hx rfl (hb hby d9_35) rfl rfl (l' := #[.val (.ref a0), .val (.int 1), .val (.int 0), .val (.ref wt)]) rfl ?_
        refine XS.goto X44.here hx rfl (pc0 := 36) (pc' := 51) rfl (hb hby d9_36) (by decide) (by decide) ?_
        refine XS.aloadN X44.here hx rfl (hb hby d9_51) rfl rfl ?_
        show Steps p.tables e below (T44.setTop (mkF m 52 #[.val (.ref a0), .val (.int 1), .val (.int 0), .val (.ref wt)] [(.ref wt)])) _
        exact retOut X44 hx Bd.returns rfl (Or.inr (Or.inr (Or.inr (Or.inr ⟨rfl, rfl, rfl⟩)))) (hb hby d9_52) hrL
      · show Q_rm9 _ _ _ _ _ _ _ _ _ _ _ _ _ _ _ _ _ _ _  T44.heap _
        rw [e44]
        exact ⟨congrArg some (hrv.1 hx33 (fun q => let ⟨k, h1, h2⟩ := q; hx42 k h1 h2)).symm, N42, rfl⟩
    · skip
      subst hz42
      obtain ⟨fs, hrL, hrun, hended, hW, hsame⟩ := X42.leave (v := some .null) (fun h => by rw [Bd.returns] at h; cases h)
      refine ⟨_, _, pre43 _ ?_, hrun, hended, _, _, rfl, ?_, ⟨_, rfl⟩, hW, hsame.mono (by decide) (by decide)⟩
      · show Steps p.tables e below (T42.setTop (mkF m 21 #[.val (.ref a0), .val (.int 1), .unset, .unset] [(.int 1)])) _
        refine XS.istoreN X42.here hx rfl (hb hby d9_21) rfl (l' := #[.val (.ref a0), .val (.int 1), .val (.int 1), .unset]) rfl ?_
        refine XS.aconstNull X42.here hx rfl (hb hby d9_22) ?_
        refine XS.astoreN X42.here hx rfl (hb hby d9_23) rfl rfl (l' := #[.val (.ref a0), .val (.int 1), .val (.int 1), .val .null]) rfl ?_
        show Steps p.tables e below (T42.setTop (mkF m 24 #[.val (.ref a0), .val (.int 1), .val (.int 1), .val .null] [])) _
        refine XS.iloadN X42.here hx rfl (hb hby d9_24) rfl ?_
        show Steps p.tables e below (T42.setTop (mkF m 25 #[.val (.ref a0), .val (.int 1), .val (.int 1), .val .null] [(.int 1)])) _
        refine XS.ifNo X42.here hx rfl (hb hby d9_25) rfl ((if0 _ _).trans (feq (by decide : ¬ ((1 : Int32) = (0 : Int32)))).1) ?_
        refine XS.iloadN X42.here hx rfl (hb hby d9_28) rfl ?_
        show Steps p.tables e below (T42.setTop (mkF m 29 #[.val (.ref a0), .val (.int 1), .val (.int 1), .val .null] [(.int 1)])) _
        refine XS.ifYes X42.here hx rfl (pc0 := 29) (pc' := 39) rfl (hb hby d9_29) rfl ((if0 _ _).trans (feq (by decide : ¬ ((1 : Int32) = (0 : Int32)))).2) (by decide) (by decide) ?_
        show Steps p.tables e below (T42.setTop (mkF m 39 #[.val (.ref a0), .val (.int 1), .val (.int 1), .val .null] [])) _
        refine XS.iloadN X42.here hx rfl (hb hby d9_39) rfl ?_
        show Steps p.tables e below (T42.setTop (mkF m 40 #[.val (.ref a0), .val (.int 1), .val (.int 1), .val .null] [(.int 1)])) _
        refine XS.ifNo X42.here hx rfl (hb hby d9_40) rfl ((if0 _ _).trans (feq (by decide : ¬ ((1 : Int32) = (0 : Int32)))).1) ?_
        refine XS.iloadN X42.here hx rfl (hb hby d9_43) rfl ?_
        show Steps p.tables e below (T42.setTop (mkF m 44 #[.val (.ref a0), .val (.int 1), .val (.int 1), .val .null] [(.int 1)])) _
        refine XS.ifYes X42.here hx rfl (pc0 := 44) (pc' := 51) rfl (hb hby d9_44) rfl ((if0 _ _).trans (feq (by decide : ¬ ((1 : Int32) = (0 : Int32)))).2) (by decide) (by decide) ?_
        show Steps p.tables e below (T42.setTop (mkF m 51 #[.val (.ref a0), .val (.int 1), .val (.int 1), .val .null] [])) _
        refine XS.aloadN X42.here hx rfl (hb hby d9_51) rfl rfl ?_
        show Steps p.tables e below (T42.setTop (mkF m 52 #[.val (.ref a0), .val (.int 1), .val (.int 1), .val .null] [.null])) _
        exact retOut X42 hx Bd.returns rfl (Or.inr (Or.inr (Or.inr (Or.inr ⟨rfl, rfl, rfl⟩)))) (hb hby d9_52) hrL
      · show Q_rm9 _ _ _ _ _ _ _ _ _ _ _ _ _ _ _ _ _ _ _  T42.heap _
        rw [Kq42]
        exact ⟨congrArg some (hrv.2.2.1 hx33 hx42).symm, N42, rfl⟩
theorem own_k9 (x : Int32) : (((x.toUInt32 >>> ((9 : Int32) &&& 31).toUInt32).toInt32) % (9 : Int32)) = (0 : Int32) ∨ (((x.toUInt32 >>> ((9 : Int32) &&& 31).toUInt32).toInt32) % (9 : Int32)) = (1 : Int32) ∨ (((x.toUInt32 >>> ((9 : Int32) &&& 31).toUInt32).toInt32) % (9 : Int32)) = (2 : Int32) ∨ (((x.toUInt32 >>> ((9 : Int32) &&& 31).toUInt32).toInt32) % (9 : Int32)) = (3 : Int32) ∨ (((x.toUInt32 >>> ((9 : Int32) &&& 31).toUInt32).toInt32) % (9 : Int32)) = (4 : Int32) ∨ (((x.toUInt32 >>> ((9 : Int32) &&& 31).toUInt32).toInt32) % (9 : Int32)) = (5 : Int32) ∨ (((x.toUInt32 >>> ((9 : Int32) &&& 31).toUInt32).toInt32) % (9 : Int32)) = (6 : Int32) ∨ (((x.toUInt32 >>> ((9 : Int32) &&& 31).toUInt32).toInt32) % (9 : Int32)) = (7 : Int32) ∨ (((x.toUInt32 >>> ((9 : Int32) &&& 31).toUInt32).toInt32) % (9 : Int32)) = (8 : Int32) := by
  have h0 := c_iushr x 9 9 (by decide) (by decide)
  have hr := rng32 x
  generalize ((x.toUInt32 >>> ((9 : Int32) &&& 31).toUInt32).toInt32) = y at h0 ⊢
  have h := (c_irem y 9 9 (by decide)).1 (by omega)
  generalize y % (9 : Int32) = k at h ⊢
  rcases (by omega : k.toInt = 0 ∨ k.toInt = 1 ∨ k.toInt = 2 ∨ k.toInt = 3 ∨ k.toInt = 4 ∨ k.toInt = 5 ∨ k.toInt = 6 ∨ k.toInt = 7 ∨ k.toInt = 8) with h | h | h | h | h | h | h | h | h
  · exact Or.inl (Int32.toInt_inj.mp h)
  · exact Or.inr (Or.inl (Int32.toInt_inj.mp h))
  · exact Or.inr (Or.inr (Or.inl (Int32.toInt_inj.mp h)))
  · exact Or.inr (Or.inr (Or.inr (Or.inl (Int32.toInt_inj.mp h))))
  · exact Or.inr (Or.inr (Or.inr (Or.inr (Or.inl (Int32.toInt_inj.mp h)))))
  · exact Or.inr (Or.inr (Or.inr (Or.inr (Or.inr (Or.inl (Int32.toInt_inj.mp h))))))
  · exact Or.inr (Or.inr (Or.inr (Or.inr (Or.inr (Or.inr (Or.inl (Int32.toInt_inj.mp h)))))))
  · exact Or.inr (Or.inr (Or.inr (Or.inr (Or.inr (Or.inr (Or.inr (Or.inl (Int32.toInt_inj.mp h))))))))
  · exact Or.inr (Or.inr (Or.inr (Or.inr (Or.inr (Or.inr (Or.inr (Or.inr ((Int32.toInt_inj.mp h)))))))))
theorem own_k10 (x : Int32) : (((x.toUInt32 >>> ((9 : Int32) &&& 31).toUInt32).toInt32) % (10 : Int32)) = (0 : Int32) ∨ (((x.toUInt32 >>> ((9 : Int32) &&& 31).toUInt32).toInt32) % (10 : Int32)) = (1 : Int32) ∨ (((x.toUInt32 >>> ((9 : Int32) &&& 31).toUInt32).toInt32) % (10 : Int32)) = (2 : Int32) ∨ (((x.toUInt32 >>> ((9 : Int32) &&& 31).toUInt32).toInt32) % (10 : Int32)) = (3 : Int32) ∨ (((x.toUInt32 >>> ((9 : Int32) &&& 31).toUInt32).toInt32) % (10 : Int32)) = (4 : Int32) ∨ (((x.toUInt32 >>> ((9 : Int32) &&& 31).toUInt32).toInt32) % (10 : Int32)) = (5 : Int32) ∨ (((x.toUInt32 >>> ((9 : Int32) &&& 31).toUInt32).toInt32) % (10 : Int32)) = (6 : Int32) ∨ (((x.toUInt32 >>> ((9 : Int32) &&& 31).toUInt32).toInt32) % (10 : Int32)) = (7 : Int32) ∨ (((x.toUInt32 >>> ((9 : Int32) &&& 31).toUInt32).toInt32) % (10 : Int32)) = (8 : Int32) ∨ (((x.toUInt32 >>> ((9 : Int32) &&& 31).toUInt32).toInt32) % (10 : Int32)) = (9 : Int32) := by
  have h0 := c_iushr x 9 9 (by decide) (by decide)
  have hr := rng32 x
  generalize ((x.toUInt32 >>> ((9 : Int32) &&& 31).toUInt32).toInt32) = y at h0 ⊢
  have h := (c_irem y 10 10 (by decide)).1 (by omega)
  generalize y % (10 : Int32) = k at h ⊢
  rcases (by omega : k.toInt = 0 ∨ k.toInt = 1 ∨ k.toInt = 2 ∨ k.toInt = 3 ∨ k.toInt = 4 ∨ k.toInt = 5 ∨ k.toInt = 6 ∨ k.toInt = 7 ∨ k.toInt = 8 ∨ k.toInt = 9) with h | h | h | h | h | h | h | h | h | h
  · exact Or.inl (Int32.toInt_inj.mp h)
  · exact Or.inr (Or.inl (Int32.toInt_inj.mp h))
  · exact Or.inr (Or.inr (Or.inl (Int32.toInt_inj.mp h)))
  · exact Or.inr (Or.inr (Or.inr (Or.inl (Int32.toInt_inj.mp h))))
  · exact Or.inr (Or.inr (Or.inr (Or.inr (Or.inl (Int32.toInt_inj.mp h)))))
  · exact Or.inr (Or.inr (Or.inr (Or.inr (Or.inr (Or.inl (Int32.toInt_inj.mp h))))))
  · exact Or.inr (Or.inr (Or.inr (Or.inr (Or.inr (Or.inr (Or.inl (Int32.toInt_inj.mp h)))))))
  · exact Or.inr (Or.inr (Or.inr (Or.inr (Or.inr (Or.inr (Or.inr (Or.inl (Int32.toInt_inj.mp h))))))))
  · exact Or.inr (Or.inr (Or.inr (Or.inr (Or.inr (Or.inr (Or.inr (Or.inr (Or.inl (Int32.toInt_inj.mp h)))))))))
  · exact Or.inr (Or.inr (Or.inr (Or.inr (Or.inr (Or.inr (Or.inr (Or.inr (Or.inr ((Int32.toInt_inj.mp h))))))))))
theorem pd_0 : parseMethodDescriptor "(JI)C" = some ⟨[.long, .int], some .char⟩ := by decide +kernel
theorem pd_1 : parseMethodDescriptor "([CI[C)I" = some ⟨[(.array .char), .int, (.array .char)], some .int⟩ := by decide +kernel
theorem pd_2 : parseMethodDescriptor "([C)V" = some ⟨[(.array .char)], none⟩ := by decide +kernel
theorem pd_8 : parseMethodDescriptor "(Ljava/lang/String;)Lcom/example/ulinzi/ulinzi/model/OwnerName;" = some ⟨[(.object "java/lang/String")], some (.object "com/example/ulinzi/ulinzi/model/OwnerName")⟩ := by decide +kernel
theorem ef_rm0 (m : MethodId) (i0 : Int32) (j1 : Int64) (i3 : Int32) (i4 : Int32) : entryFrame m #[(.int i0), (.long j1), (.int i3), (.int i4)] maxLocals = mkF m 0 #[.val (.int i0), .val (.long j1), .second, .val (.int i3), .val (.int i4), .unset, .unset, .unset, .unset, .unset, .unset, .unset, .unset, .unset, .unset] [] := by first | (simp [entryFrame, mkF, argsToLocals, Value.category, maxLocals]; done) | rfl
def Q_rm0 (Z : State) (i0 : Int32) (j1 : Int64) (i3 : Int32) (i4 : Int32) (wt : Addr) (wp : Addr) (tt : Addr) (tp : Addr) (vbt : Addr) (vbp : Addr) (kbt : ClassId) (kbp : ClassId) (cs : Int32) (h0 : Heap) (n0 : Nat) (v : Option Value) (h : Heap) (L : List Loc) : Prop := v = some (.int 1) ∧ Fr n0 L ∧ Keep h0 h []
set_option maxRecDepth 65536 in
set_option maxHeartbeats 40000000 in
theorem rm0 (l : Launch) (Z : State) (av0 : Array Value) (hw : ∀ d ∈ tables_1, d.before av0 Z = true) (ws : List Jvm.Cond) (i0 : Int32) (j1 : Int64) (i3 : Int32) (i4 : Int32) (wt : Addr) (wp : Addr) (tt : Addr) (tp : Addr) (vbt : Addr) (vbp : Addr) (kbt : ClassId) (kbp : ClassId) (cs : Int32) (h0 : Heap) (n0 : Nat) (Z0 : n0 ≤ h0.size) (p0_O : Old Z n0 h0) (p1_S : Sta Z Z.heap "java/lang/String" "COMPACT_STRINGS" "Z" (.int cs)) (hcs : ¬ (cs = (0 : Int32))) (p3_S : Sta Z Z.heap "com/example/ulinzi/ulinzi/model/OwnerName" "TENANT" "Lcom/example/ulinzi/ulinzi/model/OwnerName;" (.ref wt)) (p4_S : Sta Z Z.heap "com/example/ulinzi/ulinzi/model/OwnerName" "PROJECT" "Lcom/example/ulinzi/ulinzi/model/OwnerName;" (.ref wp)) (p5_E : Exa Z h0 wt "com/example/ulinzi/ulinzi/model/OwnerName") (p6_F : Fld Z h0 wt "com/example/ulinzi/ulinzi/model/OwnerName" "text" "Ljava/lang/String;" (.ref tt)) (p7_E : Exa Z h0 tt "java/lang/String") (p8_F : Fld Z h0 tt "java/lang/String" "coder" "B" (.int 0)) (p9_F : Fld Z h0 tt "java/lang/String" "value" "[B" (.ref vbt)) (p10_A : Arv Z h0 vbt kbt .byte (9 : Int32) [(.int 116), (.int 101), (.int 110), (.int 97), (.int 110), (.int 116), (.int 95), (.int 105), (.int 100)] (.int 0)) (p11_E : Exa Z h0 wp "com/example/ulinzi/ulinzi/model/OwnerName") (p12_F : Fld Z h0 wp "com/example/ulinzi/ulinzi/model/OwnerName" "text" "Ljava/lang/String;" (.ref tp)) (p13_E : Exa Z h0 tp "java/lang/String") (p14_F : Fld Z h0 tp "java/lang/String" "coder" "B" (.int 0)) (p15_F : Fld Z h0 tp "java/lang/String" "value" "[B" (.ref vbp)) (p16_A : Arv Z h0 vbp kbp .byte (10 : Int32) [(.int 112), (.int 114), (.int 111), (.int 106), (.int 101), (.int 99), (.int 116), (.int 95), (.int 105), (.int 100)] (.int 0)) (p17_lt : wt < Z.heap.size) (p18_lt : wp < Z.heap.size) (p19_lt : tt < Z.heap.size) (p20_lt : tp < Z.heap.size) (p21_lt : vbt < Z.heap.size) (p22_lt : vbp < Z.heap.size) :
    MetFree l x (head1 (Jvm.Cond.code x code maxLocals ret :: ws) room_1) (fun a U => a = #[(.int i0), (.long j1), (.int i3), (.int i4)] ∧ Z.Warmed39 U.vm ∧ U.heap = h0) (fun _ _ _ _ _ => True) (fun _ U o U' => ∃ v L, o = .returned v ∧ Q_rm0 Z i0 j1 i3 i4 wt wp tt tp vbt vbp kbt kbp cs h0 n0 v U'.heap L ∧ FrameEnd U o U' L room_1.cells room_1.slots) := by
  refine MetFree.of_bodySF (plainFor_of_name pn_com_example_ulinzi_ulinzi_model_OwnerFilterWrittenInPinLaw) hisR ?_
  intro p e s m args below meth c s₁ Bd hml0 hP hK
  obtain ⟨rfl, hZ, hh⟩ := hP
  have hx := Bd.exec
  have hby := Bd.bytes
  have hml : c.maxLocals = 15 := hml0
  have hown : s.vm.findClass "com/example/ulinzi/ulinzi/model/OwnerFilterWrittenInPinLaw" = some m.cls := findClass_of_methodNamed Bd.named
  have hnm := (name_of_methodNamed Bd.named Bd.method).1
  have X0 : Stand p l e room_1 s m #[(.int i0), (.long j1), (.int i3), (.int i4)] below meth c s₁ [] 0 0 := Stand.of_body Bd
  have e0 : s₁.heap = h0 := by rw [← hh, Bd.state]; rfl
  have N0 := Fr.nil n0
  have pre0 : ∀ tz_, Steps p.tables e below (s₁.setTop (mkF m 0 #[.val (.int i0), .val (.long j1), .second, .val (.int i3), .val (.int i4), .unset, .unset, .unset, .unset, .unset, .unset, .unset, .unset, .unset, .unset] [])) tz_ → Steps p.tables e below (s₁.setTop (entryFrame m #[(.int i0), (.long j1), (.int i3), (.int i4)] maxLocals)) tz_ := fun tz_ kz_ => castTop (ef_rm0 m i0 j1 i3 i4) kz_
  have K0 : Keep h0 h0 [] := Keep.refl h0 []
  obtain ⟨T31, h31, k31, X31, e31, E31, A31, st31⟩ := newP X0 hx hZ (hw _ (mg (i := 0) rfl)) e0 (g := (mkF m 2 #[.val (.int i0), .val (.long j1), .second, .val (.int i3), .val (.int i4), .unset, .unset, .unset, .unset, .unset, .unset, .unset, .unset, .unset, .unset] [(.int 9)])) rfl (hb hby at_2) rfl (by decide) (cap := 9) (by decide) (by decide) (by decide) (by decide)
  obtain ⟨b31, q31⟩ : ∃ z, z = h0.size := ⟨_, rfl⟩
  rw [← q31] at A31 st31
  have g_b31 : n0 ≤ b31 := Nat.le_trans (own_le p0_O) (Nat.le_of_eq q31.symm)
  have sz_b31 : h0.size ≤ b31 := Nat.le_trans K0.1 (Nat.le_of_eq q31.symm)
  have V31 : Arv Z h31 b31 k31 .char (9 : Int32) [(.int 0), (.int 0), (.int 0), (.int 0), (.int 0), (.int 0), (.int 0), (.int 0), (.int 0)] (.int 0) := (Arv.new A31 (by decide)).pad (pad_rep [] (.int 0) 9)
  have K32 := K0.ext E31
  have O32 := p0_O.ext E31
  obtain ⟨cl33, Ar33, qk33, qs33, qn33, qh33, qg33⟩ := id V31
  have hin33 : ¬ ((0 : Int32) < 0 ∨ cl33.slots.size ≤ ((0 : Int32)).toNatClampNeg) := inb_of qs33 ⟨by decide, by decide⟩
  obtain ⟨T34, h34, X34, e34, W34, st34⟩ := stC X31 hx hZ e31 Ar33 (j := (0 : Int32)) hin33 (g := (mkF m 8 #[.val (.int i0), .val (.long j1), .second, .val (.int i3), .val (.int i4), .unset, .unset, .unset, .unset, .unset, .unset, .unset, .unset, .unset, .unset] [(.int 116), (.int 0), (.ref b31), (.ref b31)])) rfl rfl (hb hby at_8)
  have V34 : Arv Z h34 b31 k31 .char (9 : Int32) [(.int ((116 : Int32).toUInt32.toUInt16.toUInt32.toInt32)), (.int 0), (.int 0), (.int 0), (.int 0), (.int 0), (.int 0), (.int 0), (.int 0)] (.int 0) := Arv.set Ar33 qk33 qs33 qn33 qh33 qg33 (fits_nar_char _) W34 0 rfl (Nat.le_of_ble_eq_true rfl)
  rw [show ((116 : Int32).toUInt32.toUInt16.toUInt32.toInt32) = (116 : Int32) from by decide] at V34
  have N34 := Fr.snoc X34 N0 g_b31
  have K35 := K32.wr W34 (Or.inr sz_b31)
  have O35 := O32.wr W34 g_b31
  obtain ⟨cl36, Ar36, qk36, qs36, qn36, qh36, qg36⟩ := id V34
  have hin36 : ¬ ((1 : Int32) < 0 ∨ cl36.slots.size ≤ ((1 : Int32)).toNatClampNeg) := inb_of qs36 ⟨by decide, by decide⟩
  obtain ⟨T37, h37, X37, e37, W37, st37⟩ := stC X34 hx hZ e34 Ar36 (j := (1 : Int32)) hin36 (g := (mkF m 13 #[.val (.int i0), .val (.long j1), .second, .val (.int i3), .val (.int i4), .unset, .unset, .unset, .unset, .unset, .unset, .unset, .unset, .unset, .unset] [(.int 101), (.int 1), (.ref b31), (.ref b31)])) rfl rfl (hb hby at_13)
  have V37 : Arv Z h37 b31 k31 .char (9 : Int32) [(.int 116), (.int ((101 : Int32).toUInt32.toUInt16.toUInt32.toInt32)), (.int 0), (.int 0), (.int 0), (.int 0), (.int 0), (.int 0), (.int 0)] (.int 0) := Arv.set Ar36 qk36 qs36 qn36 qh36 qg36 (fits_nar_char _) W37 1 rfl (Nat.le_of_ble_eq_true rfl)
  rw [show ((101 : Int32).toUInt32.toUInt16.toUInt32.toInt32) = (101 : Int32) from by decide] at V37
  have N37 := Fr.snoc X37 N34 g_b31
  have K38 := K35.wr W37 (Or.inr sz_b31)
  have O38 := O35.wr W37 g_b31
  obtain ⟨cl39, Ar39, qk39, qs39, qn39, qh39, qg39⟩ := id V37
  have hin39 : ¬ ((2 : Int32) < 0 ∨ cl39.slots.size ≤ ((2 : Int32)).toNatClampNeg) := inb_of qs39 ⟨by decide, by decide⟩
  obtain ⟨T40, h40, X40, e40, W40, st40⟩ := stC X37 hx hZ e37 Ar39 (j := (2 : Int32)) hin39 (g := (mkF m 18 #[.val (.int i0), .val (.long j1), .second, .val (.int i3), .val (.int i4), .unset, .unset, .unset, .unset, .unset, .unset, .unset, .unset, .unset, .unset] [(.int 110), (.int 2), (.ref b31), (.ref b31)])) rfl rfl (hb hby at_18)
  have V40 : Arv Z h40 b31 k31 .char (9 : Int32) [(.int 116), (.int 101), (.int ((110 : Int32).toUInt32.toUInt16.toUInt32.toInt32)), (.int 0), (.int 0), (.int 0), (.int 0), (.int 0), (.int 0)] (.int 0) := Arv.set Ar39 qk39 qs39 qn39 qh39 qg39 (fits_nar_char _) W40 2 rfl (Nat.le_of_ble_eq_true rfl)
  rw [show ((110 : Int32).toUInt32.toUInt16.toUInt32.toInt32) = (110 : Int32) from by decide] at V40
  have N40 := Fr.snoc X40 N37 g_b31
  have K41 := K38.wr W40 (Or.inr sz_b31)
  have O41 := O38.wr W40 g_b31
  obtain ⟨cl42, Ar42, qk42, qs42, qn42, qh42, qg42⟩ := id V40
  have hin42 : ¬ ((3 : Int32) < 0 ∨ cl42.slots.size ≤ ((3 : Int32)).toNatClampNeg) := inb_of qs42 ⟨by decide, by decide⟩
  obtain ⟨T43, h43, X43, e43, W43, st43⟩ := stC X40 hx hZ e40 Ar42 (j := (3 : Int32)) hin42 (g := (mkF m 23 #[.val (.int i0), .val (.long j1), .second, .val (.int i3), .val (.int i4), .unset, .unset, .unset, .unset, .unset, .unset, .unset, .unset, .unset, .unset] [(.int 97), (.int 3), (.ref b31), (.ref b31)])) rfl rfl (hb hby at_23)
  have V43 : Arv Z h43 b31 k31 .char (9 : Int32) [(.int 116), (.int 101), (.int 110), (.int ((97 : Int32).toUInt32.toUInt16.toUInt32.toInt32)), (.int 0), (.int 0), (.int 0), (.int 0), (.int 0)] (.int 0) := Arv.set Ar42 qk42 qs42 qn42 qh42 qg42 (fits_nar_char _) W43 3 rfl (Nat.le_of_ble_eq_true rfl)
  rw [show ((97 : Int32).toUInt32.toUInt16.toUInt32.toInt32) = (97 : Int32) from by decide] at V43
  have N43 := Fr.snoc X43 N40 g_b31
  have K44 := K41.wr W43 (Or.inr sz_b31)
  have O44 := O41.wr W43 g_b31
  obtain ⟨cl45, Ar45, qk45, qs45, qn45, qh45, qg45⟩ := id V43
  have hin45 : ¬ ((4 : Int32) < 0 ∨ cl45.slots.size ≤ ((4 : Int32)).toNatClampNeg) := inb_of qs45 ⟨by decide, by decide⟩
  obtain ⟨T46, h46, X46, e46, W46, st46⟩ := stC X43 hx hZ e43 Ar45 (j := (4 : Int32)) hin45 (g := (mkF m 28 #[.val (.int i0), .val (.long j1), .second, .val (.int i3), .val (.int i4), .unset, .unset, .unset, .unset, .unset, .unset, .unset, .unset, .unset, .unset] [(.int 110), (.int 4), (.ref b31), (.ref b31)])) rfl rfl (hb hby at_28)
  have V46 : Arv Z h46 b31 k31 .char (9 : Int32) [(.int 116), (.int 101), (.int 110), (.int 97), (.int ((110 : Int32).toUInt32.toUInt16.toUInt32.toInt32)), (.int 0), (.int 0), (.int 0), (.int 0)] (.int 0) := Arv.set Ar45 qk45 qs45 qn45 qh45 qg45 (fits_nar_char _) W46 4 rfl (Nat.le_of_ble_eq_true rfl)
  rw [show ((110 : Int32).toUInt32.toUInt16.toUInt32.toInt32) = (110 : Int32) from by decide] at V46
  have N46 := Fr.snoc X46 N43 g_b31
  have K47 := K44.wr W46 (Or.inr sz_b31)
  have O47 := O44.wr W46 g_b31
  obtain ⟨cl48, Ar48, qk48, qs48, qn48, qh48, qg48⟩ := id V46
  have hin48 : ¬ ((5 : Int32) < 0 ∨ cl48.slots.size ≤ ((5 : Int32)).toNatClampNeg) := inb_of qs48 ⟨by decide, by decide⟩
  obtain ⟨T49, h49, X49, e49, W49, st49⟩ := stC X46 hx hZ e46 Ar48 (j := (5 : Int32)) hin48 (g := (mkF m 33 #[.val (.int i0), .val (.long j1), .second, .val (.int i3), .val (.int i4), .unset, .unset, .unset, .unset, .unset, .unset, .unset, .unset, .unset, .unset] [(.int 116), (.int 5), (.ref b31), (.ref b31)])) rfl rfl (hb hby at_33)
  have V49 : Arv Z h49 b31 k31 .char (9 : Int32) [(.int 116), (.int 101), (.int 110), (.int 97), (.int 110), (.int ((116 : Int32).toUInt32.toUInt16.toUInt32.toInt32)), (.int 0), (.int 0), (.int 0)] (.int 0) := Arv.set Ar48 qk48 qs48 qn48 qh48 qg48 (fits_nar_char _) W49 5 rfl (Nat.le_of_ble_eq_true rfl)
  rw [show ((116 : Int32).toUInt32.toUInt16.toUInt32.toInt32) = (116 : Int32) from by decide] at V49
  have N49 := Fr.snoc X49 N46 g_b31
  have K50 := K47.wr W49 (Or.inr sz_b31)
  have O50 := O47.wr W49 g_b31
  obtain ⟨cl51, Ar51, qk51, qs51, qn51, qh51, qg51⟩ := id V49
  have hin51 : ¬ ((6 : Int32) < 0 ∨ cl51.slots.size ≤ ((6 : Int32)).toNatClampNeg) := inb_of qs51 ⟨by decide, by decide⟩
  obtain ⟨T52, h52, X52, e52, W52, st52⟩ := stC X49 hx hZ e49 Ar51 (j := (6 : Int32)) hin51 (g := (mkF m 39 #[.val (.int i0), .val (.long j1), .second, .val (.int i3), .val (.int i4), .unset, .unset, .unset, .unset, .unset, .unset, .unset, .unset, .unset, .unset] [(.int 95), (.int 6), (.ref b31), (.ref b31)])) rfl rfl (hb hby at_39)
  have V52 : Arv Z h52 b31 k31 .char (9 : Int32) [(.int 116), (.int 101), (.int 110), (.int 97), (.int 110), (.int 116), (.int ((95 : Int32).toUInt32.toUInt16.toUInt32.toInt32)), (.int 0), (.int 0)] (.int 0) := Arv.set Ar51 qk51 qs51 qn51 qh51 qg51 (fits_nar_char _) W52 6 rfl (Nat.le_of_ble_eq_true rfl)
  rw [show ((95 : Int32).toUInt32.toUInt16.toUInt32.toInt32) = (95 : Int32) from by decide] at V52
  have N52 := Fr.snoc X52 N49 g_b31
  have K53 := K50.wr W52 (Or.inr sz_b31)
  have O53 := O50.wr W52 g_b31
  obtain ⟨cl54, Ar54, qk54, qs54, qn54, qh54, qg54⟩ := id V52
  have hin54 : ¬ ((7 : Int32) < 0 ∨ cl54.slots.size ≤ ((7 : Int32)).toNatClampNeg) := inb_of qs54 ⟨by decide, by decide⟩
  obtain ⟨T55, h55, X55, e55, W55, st55⟩ := stC X52 hx hZ e52 Ar54 (j := (7 : Int32)) hin54 (g := (mkF m 45 #[.val (.int i0), .val (.long j1), .second, .val (.int i3), .val (.int i4), .unset, .unset, .unset, .unset, .unset, .unset, .unset, .unset, .unset, .unset] [(.int 105), (.int 7), (.ref b31), (.ref b31)])) rfl rfl (hb hby at_45)
  have V55 : Arv Z h55 b31 k31 .char (9 : Int32) [(.int 116), (.int 101), (.int 110), (.int 97), (.int 110), (.int 116), (.int 95), (.int ((105 : Int32).toUInt32.toUInt16.toUInt32.toInt32)), (.int 0)] (.int 0) := Arv.set Ar54 qk54 qs54 qn54 qh54 qg54 (fits_nar_char _) W55 7 rfl (Nat.le_of_ble_eq_true rfl)
  rw [show ((105 : Int32).toUInt32.toUInt16.toUInt32.toInt32) = (105 : Int32) from by decide] at V55
  have N55 := Fr.snoc X55 N52 g_b31
  have K56 := K53.wr W55 (Or.inr sz_b31)
  have O56 := O53.wr W55 g_b31
  obtain ⟨cl57, Ar57, qk57, qs57, qn57, qh57, qg57⟩ := id V55
  have hin57 : ¬ ((8 : Int32) < 0 ∨ cl57.slots.size ≤ ((8 : Int32)).toNatClampNeg) := inb_of qs57 ⟨by decide, by decide⟩
  obtain ⟨T58, h58, X58, e58, W58, st58⟩ := stC X55 hx hZ e55 Ar57 (j := (8 : Int32)) hin57 (g := (mkF m 51 #[.val (.int i0), .val (.long j1), .second, .val (.int i3), .val (.int i4), .unset, .unset, .unset, .unset, .unset, .unset, .unset, .unset, .unset, .unset] [(.int 100), (.int 8), (.ref b31), (.ref b31)])) rfl rfl (hb hby at_51)
  have V58 : Arv Z h58 b31 k31 .char (9 : Int32) [(.int 116), (.int 101), (.int 110), (.int 97), (.int 110), (.int 116), (.int 95), (.int 105), (.int ((100 : Int32).toUInt32.toUInt16.toUInt32.toInt32))] (.int 0) := Arv.set Ar57 qk57 qs57 qn57 qh57 qg57 (fits_nar_char _) W58 8 rfl (Nat.le_of_ble_eq_true rfl)
  rw [show ((100 : Int32).toUInt32.toUInt16.toUInt32.toInt32) = (100 : Int32) from by decide] at V58
  have N58 := Fr.snoc X58 N55 g_b31
  have K59 := K56.wr W58 (Or.inr sz_b31)
  have O59 := O56.wr W58 g_b31
  obtain ⟨T60, h60, k60, X60, e60, E60, A60, st60⟩ := newP X58 hx hZ (hw _ (mg (i := 0) rfl)) e58 (g := (mkF m 56 #[.val (.int i0), .val (.long j1), .second, .val (.int i3), .val (.int i4), .val (.ref b31), .unset, .unset, .unset, .unset, .unset, .unset, .unset, .unset, .unset] [(.int 10)])) rfl (hb hby at_56) rfl (by decide) (cap := 10) (by decide) (by decide) (by decide) (by decide)
  obtain ⟨b60, q60⟩ : ∃ z, z = h58.size := ⟨_, rfl⟩
  rw [← q60] at A60 st60
  have g_b60 : n0 ≤ b60 := Nat.le_trans (own_le O59) (Nat.le_of_eq q60.symm)
  have sz_b60 : h0.size ≤ b60 := Nat.le_trans K59.1 (Nat.le_of_eq q60.symm)
  have V60 : Arv Z h60 b60 k60 .char (10 : Int32) [(.int 0), (.int 0), (.int 0), (.int 0), (.int 0), (.int 0), (.int 0), (.int 0), (.int 0), (.int 0)] (.int 0) := (Arv.new A60 (by decide)).pad (pad_rep [] (.int 0) 10)
  have K61 := K59.ext E60
  have O61 := O59.ext E60
  obtain ⟨cl62, Ar62, qk62, qs62, qn62, qh62, qg62⟩ := id V60
  have hin62 : ¬ ((0 : Int32) < 0 ∨ cl62.slots.size ≤ ((0 : Int32)).toNatClampNeg) := inb_of qs62 ⟨by decide, by decide⟩
  obtain ⟨T63, h63, X63, e63, W63, st63⟩ := stC X60 hx hZ e60 Ar62 (j := (0 : Int32)) hin62 (g := (mkF m 62 #[.val (.int i0), .val (.long j1), .second, .val (.int i3), .val (.int i4), .val (.ref b31), .unset, .unset, .unset, .unset, .unset, .unset, .unset, .unset, .unset] [(.int 112), (.int 0), (.ref b60), (.ref b60)])) rfl rfl (hb hby at_62)
  have V63 : Arv Z h63 b60 k60 .char (10 : Int32) [(.int ((112 : Int32).toUInt32.toUInt16.toUInt32.toInt32)), (.int 0), (.int 0), (.int 0), (.int 0), (.int 0), (.int 0), (.int 0), (.int 0), (.int 0)] (.int 0) := Arv.set Ar62 qk62 qs62 qn62 qh62 qg62 (fits_nar_char _) W63 0 rfl (Nat.le_of_ble_eq_true rfl)
  rw [show ((112 : Int32).toUInt32.toUInt16.toUInt32.toInt32) = (112 : Int32) from by decide] at V63
  have N63 := Fr.snoc X63 N58 g_b60
  have K64 := K61.wr W63 (Or.inr sz_b60)
  have O64 := O61.wr W63 g_b60
  obtain ⟨cl65, Ar65, qk65, qs65, qn65, qh65, qg65⟩ := id V63
  have hin65 : ¬ ((1 : Int32) < 0 ∨ cl65.slots.size ≤ ((1 : Int32)).toNatClampNeg) := inb_of qs65 ⟨by decide, by decide⟩
  obtain ⟨T66, h66, X66, e66, W66, st66⟩ := stC X63 hx hZ e63 Ar65 (j := (1 : Int32)) hin65 (g := (mkF m 67 #[.val (.int i0), .val (.long j1), .second, .val (.int i3), .val (.int i4), .val (.ref b31), .unset, .unset, .unset, .unset, .unset, .unset, .unset, .unset, .unset] [(.int 114), (.int 1), (.ref b60), (.ref b60)])) rfl rfl (hb hby at_67)
  have V66 : Arv Z h66 b60 k60 .char (10 : Int32) [(.int 112), (.int ((114 : Int32).toUInt32.toUInt16.toUInt32.toInt32)), (.int 0), (.int 0), (.int 0), (.int 0), (.int 0), (.int 0), (.int 0), (.int 0)] (.int 0) := Arv.set Ar65 qk65 qs65 qn65 qh65 qg65 (fits_nar_char _) W66 1 rfl (Nat.le_of_ble_eq_true rfl)
  rw [show ((114 : Int32).toUInt32.toUInt16.toUInt32.toInt32) = (114 : Int32) from by decide] at V66
  have N66 := Fr.snoc X66 N63 g_b60
  have K67 := K64.wr W66 (Or.inr sz_b60)
  have O67 := O64.wr W66 g_b60
  obtain ⟨cl68, Ar68, qk68, qs68, qn68, qh68, qg68⟩ := id V66
  have hin68 : ¬ ((2 : Int32) < 0 ∨ cl68.slots.size ≤ ((2 : Int32)).toNatClampNeg) := inb_of qs68 ⟨by decide, by decide⟩
  obtain ⟨T69, h69, X69, e69, W69, st69⟩ := stC X66 hx hZ e66 Ar68 (j := (2 : Int32)) hin68 (g := (mkF m 72 #[.val (.int i0), .val (.long j1), .second, .val (.int i3), .val (.int i4), .val (.ref b31), .unset, .unset, .unset, .unset, .unset, .unset, .unset, .unset, .unset] [(.int 111), (.int 2), (.ref b60), (.ref b60)])) rfl rfl (hb hby at_72)
  have V69 : Arv Z h69 b60 k60 .char (10 : Int32) [(.int 112), (.int 114), (.int ((111 : Int32).toUInt32.toUInt16.toUInt32.toInt32)), (.int 0), (.int 0), (.int 0), (.int 0), (.int 0), (.int 0), (.int 0)] (.int 0) := Arv.set Ar68 qk68 qs68 qn68 qh68 qg68 (fits_nar_char _) W69 2 rfl (Nat.le_of_ble_eq_true rfl)
  rw [show ((111 : Int32).toUInt32.toUInt16.toUInt32.toInt32) = (111 : Int32) from by decide] at V69
  have N69 := Fr.snoc X69 N66 g_b60
  have K70 := K67.wr W69 (Or.inr sz_b60)
  have O70 := O67.wr W69 g_b60
  obtain ⟨cl71, Ar71, qk71, qs71, qn71, qh71, qg71⟩ := id V69
  have hin71 : ¬ ((3 : Int32) < 0 ∨ cl71.slots.size ≤ ((3 : Int32)).toNatClampNeg) := inb_of qs71 ⟨by decide, by decide⟩
  obtain ⟨T72, h72, X72, e72, W72, st72⟩ := stC X69 hx hZ e69 Ar71 (j := (3 : Int32)) hin71 (g := (mkF m 77 #[.val (.int i0), .val (.long j1), .second, .val (.int i3), .val (.int i4), .val (.ref b31), .unset, .unset, .unset, .unset, .unset, .unset, .unset, .unset, .unset] [(.int 106), (.int 3), (.ref b60), (.ref b60)])) rfl rfl (hb hby at_77)
  have V72 : Arv Z h72 b60 k60 .char (10 : Int32) [(.int 112), (.int 114), (.int 111), (.int ((106 : Int32).toUInt32.toUInt16.toUInt32.toInt32)), (.int 0), (.int 0), (.int 0), (.int 0), (.int 0), (.int 0)] (.int 0) := Arv.set Ar71 qk71 qs71 qn71 qh71 qg71 (fits_nar_char _) W72 3 rfl (Nat.le_of_ble_eq_true rfl)
  rw [show ((106 : Int32).toUInt32.toUInt16.toUInt32.toInt32) = (106 : Int32) from by decide] at V72
  have N72 := Fr.snoc X72 N69 g_b60
  have K73 := K70.wr W72 (Or.inr sz_b60)
  have O73 := O70.wr W72 g_b60
  obtain ⟨cl74, Ar74, qk74, qs74, qn74, qh74, qg74⟩ := id V72
  have hin74 : ¬ ((4 : Int32) < 0 ∨ cl74.slots.size ≤ ((4 : Int32)).toNatClampNeg) := inb_of qs74 ⟨by decide, by decide⟩
  obtain ⟨T75, h75, X75, e75, W75, st75⟩ := stC X72 hx hZ e72 Ar74 (j := (4 : Int32)) hin74 (g := (mkF m 82 #[.val (.int i0), .val (.long j1), .second, .val (.int i3), .val (.int i4), .val (.ref b31), .unset, .unset, .unset, .unset, .unset, .unset, .unset, .unset, .unset] [(.int 101), (.int 4), (.ref b60), (.ref b60)])) rfl rfl (hb hby at_82)
  have V75 : Arv Z h75 b60 k60 .char (10 : Int32) [(.int 112), (.int 114), (.int 111), (.int 106), (.int ((101 : Int32).toUInt32.toUInt16.toUInt32.toInt32)), (.int 0), (.int 0), (.int 0), (.int 0), (.int 0)] (.int 0) := Arv.set Ar74 qk74 qs74 qn74 qh74 qg74 (fits_nar_char _) W75 4 rfl (Nat.le_of_ble_eq_true rfl)
  rw [show ((101 : Int32).toUInt32.toUInt16.toUInt32.toInt32) = (101 : Int32) from by decide] at V75
  have N75 := Fr.snoc X75 N72 g_b60
  have K76 := K73.wr W75 (Or.inr sz_b60)
  have O76 := O73.wr W75 g_b60
  obtain ⟨cl77, Ar77, qk77, qs77, qn77, qh77, qg77⟩ := id V75
  have hin77 : ¬ ((5 : Int32) < 0 ∨ cl77.slots.size ≤ ((5 : Int32)).toNatClampNeg) := inb_of qs77 ⟨by decide, by decide⟩
  obtain ⟨T78, h78, X78, e78, W78, st78⟩ := stC X75 hx hZ e75 Ar77 (j := (5 : Int32)) hin77 (g := (mkF m 87 #[.val (.int i0), .val (.long j1), .second, .val (.int i3), .val (.int i4), .val (.ref b31), .unset, .unset, .unset, .unset, .unset, .unset, .unset, .unset, .unset] [(.int 99), (.int 5), (.ref b60), (.ref b60)])) rfl rfl (hb hby at_87)
  have V78 : Arv Z h78 b60 k60 .char (10 : Int32) [(.int 112), (.int 114), (.int 111), (.int 106), (.int 101), (.int ((99 : Int32).toUInt32.toUInt16.toUInt32.toInt32)), (.int 0), (.int 0), (.int 0), (.int 0)] (.int 0) := Arv.set Ar77 qk77 qs77 qn77 qh77 qg77 (fits_nar_char _) W78 5 rfl (Nat.le_of_ble_eq_true rfl)
  rw [show ((99 : Int32).toUInt32.toUInt16.toUInt32.toInt32) = (99 : Int32) from by decide] at V78
  have N78 := Fr.snoc X78 N75 g_b60
  have K79 := K76.wr W78 (Or.inr sz_b60)
  have O79 := O76.wr W78 g_b60
  obtain ⟨cl80, Ar80, qk80, qs80, qn80, qh80, qg80⟩ := id V78
  have hin80 : ¬ ((6 : Int32) < 0 ∨ cl80.slots.size ≤ ((6 : Int32)).toNatClampNeg) := inb_of qs80 ⟨by decide, by decide⟩
  obtain ⟨T81, h81, X81, e81, W81, st81⟩ := stC X78 hx hZ e78 Ar80 (j := (6 : Int32)) hin80 (g := (mkF m 93 #[.val (.int i0), .val (.long j1), .second, .val (.int i3), .val (.int i4), .val (.ref b31), .unset, .unset, .unset, .unset, .unset, .unset, .unset, .unset, .unset] [(.int 116), (.int 6), (.ref b60), (.ref b60)])) rfl rfl (hb hby at_93)
  have V81 : Arv Z h81 b60 k60 .char (10 : Int32) [(.int 112), (.int 114), (.int 111), (.int 106), (.int 101), (.int 99), (.int ((116 : Int32).toUInt32.toUInt16.toUInt32.toInt32)), (.int 0), (.int 0), (.int 0)] (.int 0) := Arv.set Ar80 qk80 qs80 qn80 qh80 qg80 (fits_nar_char _) W81 6 rfl (Nat.le_of_ble_eq_true rfl)
  rw [show ((116 : Int32).toUInt32.toUInt16.toUInt32.toInt32) = (116 : Int32) from by decide] at V81
  have N81 := Fr.snoc X81 N78 g_b60
  have K82 := K79.wr W81 (Or.inr sz_b60)
  have O82 := O79.wr W81 g_b60
  obtain ⟨cl83, Ar83, qk83, qs83, qn83, qh83, qg83⟩ := id V81
  have hin83 : ¬ ((7 : Int32) < 0 ∨ cl83.slots.size ≤ ((7 : Int32)).toNatClampNeg) := inb_of qs83 ⟨by decide, by decide⟩
  obtain ⟨T84, h84, X84, e84, W84, st84⟩ := stC X81 hx hZ e81 Ar83 (j := (7 : Int32)) hin83 (g := (mkF m 99 #[.val (.int i0), .val (.long j1), .second, .val (.int i3), .val (.int i4), .val (.ref b31), .unset, .unset, .unset, .unset, .unset, .unset, .unset, .unset, .unset] [(.int 95), (.int 7), (.ref b60), (.ref b60)])) rfl rfl (hb hby at_99)
  have V84 : Arv Z h84 b60 k60 .char (10 : Int32) [(.int 112), (.int 114), (.int 111), (.int 106), (.int 101), (.int 99), (.int 116), (.int ((95 : Int32).toUInt32.toUInt16.toUInt32.toInt32)), (.int 0), (.int 0)] (.int 0) := Arv.set Ar83 qk83 qs83 qn83 qh83 qg83 (fits_nar_char _) W84 7 rfl (Nat.le_of_ble_eq_true rfl)
  rw [show ((95 : Int32).toUInt32.toUInt16.toUInt32.toInt32) = (95 : Int32) from by decide] at V84
  have N84 := Fr.snoc X84 N81 g_b60
  have K85 := K82.wr W84 (Or.inr sz_b60)
  have O85 := O82.wr W84 g_b60
  obtain ⟨cl86, Ar86, qk86, qs86, qn86, qh86, qg86⟩ := id V84
  have hin86 : ¬ ((8 : Int32) < 0 ∨ cl86.slots.size ≤ ((8 : Int32)).toNatClampNeg) := inb_of qs86 ⟨by decide, by decide⟩
  obtain ⟨T87, h87, X87, e87, W87, st87⟩ := stC X84 hx hZ e84 Ar86 (j := (8 : Int32)) hin86 (g := (mkF m 105 #[.val (.int i0), .val (.long j1), .second, .val (.int i3), .val (.int i4), .val (.ref b31), .unset, .unset, .unset, .unset, .unset, .unset, .unset, .unset, .unset] [(.int 105), (.int 8), (.ref b60), (.ref b60)])) rfl rfl (hb hby at_105)
  have V87 : Arv Z h87 b60 k60 .char (10 : Int32) [(.int 112), (.int 114), (.int 111), (.int 106), (.int 101), (.int 99), (.int 116), (.int 95), (.int ((105 : Int32).toUInt32.toUInt16.toUInt32.toInt32)), (.int 0)] (.int 0) := Arv.set Ar86 qk86 qs86 qn86 qh86 qg86 (fits_nar_char _) W87 8 rfl (Nat.le_of_ble_eq_true rfl)
  rw [show ((105 : Int32).toUInt32.toUInt16.toUInt32.toInt32) = (105 : Int32) from by decide] at V87
  have N87 := Fr.snoc X87 N84 g_b60
  have K88 := K85.wr W87 (Or.inr sz_b60)
  have O88 := O85.wr W87 g_b60
  obtain ⟨cl89, Ar89, qk89, qs89, qn89, qh89, qg89⟩ := id V87
  have hin89 : ¬ ((9 : Int32) < 0 ∨ cl89.slots.size ≤ ((9 : Int32)).toNatClampNeg) := inb_of qs89 ⟨by decide, by decide⟩
  obtain ⟨T90, h90, X90, e90, W90, st90⟩ := stC X87 hx hZ e87 Ar89 (j := (9 : Int32)) hin89 (g := (mkF m 111 #[.val (.int i0), .val (.long j1), .second, .val (.int i3), .val (.int i4), .val (.ref b31), .unset, .unset, .unset, .unset, .unset, .unset, .unset, .unset, .unset] [(.int 100), (.int 9), (.ref b60), (.ref b60)])) rfl rfl (hb hby at_111)
  have V90 : Arv Z h90 b60 k60 .char (10 : Int32) [(.int 112), (.int 114), (.int 111), (.int 106), (.int 101), (.int 99), (.int 116), (.int 95), (.int 105), (.int ((100 : Int32).toUInt32.toUInt16.toUInt32.toInt32))] (.int 0) := Arv.set Ar89 qk89 qs89 qn89 qh89 qg89 (fits_nar_char _) W90 9 rfl (Nat.le_of_ble_eq_true rfl)
  rw [show ((100 : Int32).toUInt32.toUInt16.toUInt32.toInt32) = (100 : Int32) from by decide] at V90
  have N90 := Fr.snoc X90 N87 g_b60
  have K91 := K88.wr W90 (Or.inr sz_b60)
  have O91 := O88.wr W90 g_b60
  have pre92 : ∀ tz_, Steps p.tables e below (T90.setTop (mkF m 117 #[.val (.int i0), .val (.long j1), .second, .val (.int i3), .val (.int i4), .val (.ref b31), .val (.ref b60), .val (.int 1), .unset, .unset, .unset, .unset, .unset, .unset, .unset] [])) tz_ → Steps p.tables e below (s₁.setTop (entryFrame m #[(.int i0), (.long j1), (.int i3), (.int i4)] maxLocals)) tz_ := fun tz_ kk => pre0 tz_ (by
    show Steps p.tables e below (s₁.setTop (mkF m 0 #[.val (.int i0), .val (.long j1), .second, .val (.int i3), .val (.int i4), .unset, .unset, .unset, .unset, .unset, .unset, .unset, .unset, .unset, .unset] [])) _
    refine XS.bipush X0.here hx rfl (hb hby at_0) ?_
    show Steps p.tables e below (s₁.setTop (mkF m 2 #[.val (.int i0), .val (.long j1), .second, .val (.int i3), .val (.int i4), .unset, .unset, .unset, .unset, .unset, .unset, .unset, .unset, .unset, .unset] [(.int 9)])) _
    refine st31 _ ?_
    refine XS.dup X31.here hx rfl (hb hby at_4) rfl rfl ?_
    show Steps p.tables e below (T31.setTop (mkF m 5 #[.val (.int i0), .val (.long j1), .second, .val (.int i3), .val (.int i4), .unset, .unset, .unset, .unset, .unset, .unset, .unset, .unset, .unset, .unset] [(.ref b31), (.ref b31)])) _
    refine XS.iconst X31.here hx rfl (hb hby at_5) ?_
    refine XS.bipush X31.here hx rfl (hb hby at_6) ?_
    show Steps p.tables e below (T31.setTop (mkF m 8 #[.val (.int i0), .val (.long j1), .second, .val (.int i3), .val (.int i4), .unset, .unset, .unset, .unset, .unset, .unset, .unset, .unset, .unset, .unset] [(.int 116), (.int 0), (.ref b31), (.ref b31)])) _
    refine st34 _ ?_
    refine XS.dup X34.here hx rfl (hb hby at_9) rfl rfl ?_
    show Steps p.tables e below (T34.setTop (mkF m 10 #[.val (.int i0), .val (.long j1), .second, .val (.int i3), .val (.int i4), .unset, .unset, .unset, .unset, .unset, .unset, .unset, .unset, .unset, .unset] [(.ref b31), (.ref b31)])) _
    refine XS.iconst X34.here hx rfl (hb hby at_10) ?_
    refine XS.bipush X34.here hx rfl (hb hby at_11) ?_
    show Steps p.tables e below (T34.setTop (mkF m 13 #[.val (.int i0), .val (.long j1), .second, .val (.int i3), .val (.int i4), .unset, .unset, .unset, .unset, .unset, .unset, .unset, .unset, .unset, .unset] [(.int 101), (.int 1), (.ref b31), (.ref b31)])) _
    refine st37 _ ?_
    refine XS.dup X37.here hx rfl (hb hby at_14) rfl rfl ?_
    show Steps p.tables e below (T37.setTop (mkF m 15 #[.val (.int i0), .val (.long j1), .second, .val (.int i3), .val (.int i4), .unset, .unset, .unset, .unset, .unset, .unset, .unset, .unset, .unset, .unset] [(.ref b31), (.ref b31)])) _
    refine XS.iconst X37.here hx rfl (hb hby at_15) ?_
    refine XS.bipush X37.here hx rfl (hb hby at_16) ?_
    show Steps p.tables e below (T37.setTop (mkF m 18 #[.val (.int i0), .val (.long j1), .second, .val (.int i3), .val (.int i4), .unset, .unset, .unset, .unset, .unset, .unset, .unset, .unset, .unset, .unset] [(.int 110), (.int 2), (.ref b31), (.ref b31)])) _
    refine st40 _ ?_
    refine XS.dup X40.here hx rfl (hb hby at_19) rfl rfl ?_
    show Steps p.tables e below (T40.setTop (mkF m 20 #[.val (.int i0), .val (.long j1), .second, .val (.int i3), .val (.int i4), .unset, .unset, .unset, .unset, .unset, .unset, .unset, .unset, .unset, .unset] [(.ref b31), (.ref b31)])) _
    refine XS.iconst X40.here hx rfl (hb hby at_20) ?_
    refine XS.bipush X40.here hx rfl (hb hby at_21) ?_
    show Steps p.tables e below (T40.setTop (mkF m 23 #[.val (.int i0), .val (.long j1), .second, .val (.int i3), .val (.int i4), .unset, .unset, .unset, .unset, .unset, .unset, .unset, .unset, .unset, .unset] [(.int 97), (.int 3), (.ref b31), (.ref b31)])) _
    refine st43 _ ?_
    refine XS.dup X43.here hx rfl (hb hby at_24) rfl rfl ?_
    show Steps p.tables e below (T43.setTop (mkF m 25 #[.val (.int i0), .val (.long j1), .second, .val (.int i3), .val (.int i4), .unset, .unset, .unset, .unset, .unset, .unset, .unset, .unset, .unset, .unset] [(.ref b31), (.ref b31)])) _
    refine XS.iconst X43.here hx rfl (hb hby at_25) ?_
    refine XS.bipush X43.here hx rfl (hb hby at_26) ?_
    show Steps p.tables e below (T43.setTop (mkF m 28 #[.val (.int i0), .val (.long j1), .second, .val (.int i3), .val (.int i4), .unset, .unset, .unset, .unset, .unset, .unset, .unset, .unset, .unset, .unset] [(.int 110), (.int 4), (.ref b31), (.ref b31)])) _
    refine st46 _ ?_
    refine XS.dup X46.here hx rfl (hb hby at_29) rfl rfl ?_
    show Steps p.tables e below (T46.setTop (mkF m 30 #[.val (.int i0), .val (.long j1), .second, .val (.int i3), .val (.int i4), .unset, .unset, .unset, .unset, .unset, .unset, .unset, .unset, .unset, .unset] [(.ref b31), (.ref b31)])) _
    refine XS.iconst X46.here hx rfl (hb hby at_30) ?_
    refine XS.bipush X46.here hx rfl (hb hby at_31) ?_
    show Steps p.tables e below (T46.setTop (mkF m 33 #[.val (.int i0), .val (.long j1), .second, .val (.int i3), .val (.int i4), .unset, .unset, .unset, .unset, .unset, .unset, .unset, .unset, .unset, .unset] [(.int 116), (.int 5), (.ref b31), (.ref b31)])) _
    refine st49 _ ?_
    refine XS.dup X49.here hx rfl (hb hby at_34) rfl rfl ?_
    show Steps p.tables e below (T49.setTop (mkF m 35 #[.val (.int i0), .val (.long j1), .second, .val (.int i3), .val (.int i4), .unset, .unset, .unset, .unset, .unset, .unset, .unset, .unset, .unset, .unset] [(.ref b31), (.ref b31)])) _
    refine XS.bipush X49.here hx rfl (hb hby at_35) ?_
    refine XS.bipush X49.here hx rfl (hb hby at_37) ?_
    show Steps p.tables e below (T49.setTop (mkF m 39 #[.val (.int i0), .val (.long j1), .second, .val (.int i3), .val (.int i4), .unset, .unset, .unset, .unset, .unset, .unset, .unset, .unset, .unset, .unset] [(.int 95), (.int 6), (.ref b31), (.ref b31)])) _
    refine st52 _ ?_
    refine XS.dup X52.here hx rfl (hb hby at_40) rfl rfl ?_
    show Steps p.tables e below (T52.setTop (mkF m 41 #[.val (.int i0), .val (.long j1), .second, .val (.int i3), .val (.int i4), .unset, .unset, .unset, .unset, .unset, .unset, .unset, .unset, .unset, .unset] [(.ref b31), (.ref b31)])) _
    refine XS.bipush X52.here hx rfl (hb hby at_41) ?_
    refine XS.bipush X52.here hx rfl (hb hby at_43) ?_
    show Steps p.tables e below (T52.setTop (mkF m 45 #[.val (.int i0), .val (.long j1), .second, .val (.int i3), .val (.int i4), .unset, .unset, .unset, .unset, .unset, .unset, .unset, .unset, .unset, .unset] [(.int 105), (.int 7), (.ref b31), (.ref b31)])) _
    refine st55 _ ?_
    refine XS.dup X55.here hx rfl (hb hby at_46) rfl rfl ?_
    show Steps p.tables e below (T55.setTop (mkF m 47 #[.val (.int i0), .val (.long j1), .second, .val (.int i3), .val (.int i4), .unset, .unset, .unset, .unset, .unset, .unset, .unset, .unset, .unset, .unset] [(.ref b31), (.ref b31)])) _
    refine XS.bipush X55.here hx rfl (hb hby at_47) ?_
    refine XS.bipush X55.here hx rfl (hb hby at_49) ?_
    show Steps p.tables e below (T55.setTop (mkF m 51 #[.val (.int i0), .val (.long j1), .second, .val (.int i3), .val (.int i4), .unset, .unset, .unset, .unset, .unset, .unset, .unset, .unset, .unset, .unset] [(.int 100), (.int 8), (.ref b31), (.ref b31)])) _
    refine st58 _ ?_
    refine XS.astore X58.here hx rfl (hb hby at_52) rfl rfl (l' := #[.val (.int i0), .val (.long j1), .second, .val (.int i3), .val (.int i4), .val (.ref b31), .unset, .unset, .unset, .unset, .unset, .unset, .unset, .unset, .unset]) rfl ?_
    show Steps p.tables e below (T58.setTop (mkF m 54 #[.val (.int i0), .val (.long j1), .second, .val (.int i3), .val (.int i4), .val (.ref b31), .unset, .unset, .unset, .unset, .unset, .unset, .unset, .unset, .unset] [])) _
    refine XS.bipush X58.here hx rfl (hb hby at_54) ?_
    show Steps p.tables e below (T58.setTop (mkF m 56 #[.val (.int i0), .val (.long j1), .second, .val (.int i3), .val (.int i4), .val (.ref b31), .unset, .unset, .unset, .unset, .unset, .unset, .unset, .unset, .unset] [(.int 10)])) _
    refine st60 _ ?_
    refine XS.dup X60.here hx rfl (hb hby at_58) rfl rfl ?_
    refine XS.iconst X60.here hx rfl (hb hby at_59) ?_
    show Steps p.tables e below (T60.setTop (mkF m 60 #[.val (.int i0), .val (.long j1), .second, .val (.int i3), .val (.int i4), .val (.ref b31), .unset, .unset, .unset, .unset, .unset, .unset, .unset, .unset, .unset] [(.int 0), (.ref b60), (.ref b60)])) _
    refine XS.bipush X60.here hx rfl (hb hby at_60) ?_
    show Steps p.tables e below (T60.setTop (mkF m 62 #[.val (.int i0), .val (.long j1), .second, .val (.int i3), .val (.int i4), .val (.ref b31), .unset, .unset, .unset, .unset, .unset, .unset, .unset, .unset, .unset] [(.int 112), (.int 0), (.ref b60), (.ref b60)])) _
    refine st63 _ ?_
    refine XS.dup X63.here hx rfl (hb hby at_63) rfl rfl ?_
    refine XS.iconst X63.here hx rfl (hb hby at_64) ?_
    show Steps p.tables e below (T63.setTop (mkF m 65 #[.val (.int i0), .val (.long j1), .second, .val (.int i3), .val (.int i4), .val (.ref b31), .unset, .unset, .unset, .unset, .unset, .unset, .unset, .unset, .unset] [(.int 1), (.ref b60), (.ref b60)])) _
    refine XS.bipush X63.here hx rfl (hb hby at_65) ?_
    show Steps p.tables e below (T63.setTop (mkF m 67 #[.val (.int i0), .val (.long j1), .second, .val (.int i3), .val (.int i4), .val (.ref b31), .unset, .unset, .unset, .unset, .unset, .unset, .unset, .unset, .unset] [(.int 114), (.int 1), (.ref b60), (.ref b60)])) _
    refine st66 _ ?_
    refine XS.dup X66.here hx rfl (hb hby at_68) rfl rfl ?_
    refine XS.iconst X66.here hx rfl (hb hby at_69) ?_
    show Steps p.tables e below (T66.setTop (mkF m 70 #[.val (.int i0), .val (.long j1), .second, .val (.int i3), .val (.int i4), .val (.ref b31), .unset, .unset, .unset, .unset, .unset, .unset, .unset, .unset, .unset] [(.int 2), (.ref b60), (.ref b60)])) _
    refine XS.bipush X66.here hx rfl (hb hby at_70) ?_
    show Steps p.tables e below (T66.setTop (mkF m 72 #[.val (.int i0), .val (.long j1), .second, .val (.int i3), .val (.int i4), .val (.ref b31), .unset, .unset, .unset, .unset, .unset, .unset, .unset, .unset, .unset] [(.int 111), (.int 2), (.ref b60), (.ref b60)])) _
    refine st69 _ ?_
    refine XS.dup X69.here hx rfl (hb hby at_73) rfl rfl ?_
    refine XS.iconst X69.here hx rfl (hb hby at_74) ?_
    show Steps p.tables e below (T69.setTop (mkF m 75 #[.val (.int i0), .val (.long j1), .second, .val (.int i3), .val (.int i4), .val (.ref b31), .unset, .unset, .unset, .unset, .unset, .unset, .unset, .unset, .unset] [(.int 3), (.ref b60), (.ref b60)])) _
    refine XS.bipush X69.here hx rfl (hb hby at_75) ?_
    show Steps p.tables e below (T69.setTop (mkF m 77 #[.val (.int i0), .val (.long j1), .second, .val (.int i3), .val (.int i4), .val (.ref b31), .unset, .unset, .unset, .unset, .unset, .unset, .unset, .unset, .unset] [(.int 106), (.int 3), (.ref b60), (.ref b60)])) _
    refine st72 _ ?_
    refine XS.dup X72.here hx rfl (hb hby at_78) rfl rfl ?_
    refine XS.iconst X72.here hx rfl (hb hby at_79) ?_
    show Steps p.tables e below (T72.setTop (mkF m 80 #[.val (.int i0), .val (.long j1), .second, .val (.int i3), .val (.int i4), .val (.ref b31), .unset, .unset, .unset, .unset, .unset, .unset, .unset, .unset, .unset] [(.int 4), (.ref b60), (.ref b60)])) _
    refine XS.bipush X72.here hx rfl (hb hby at_80) ?_
    show Steps p.tables e below (T72.setTop (mkF m 82 #[.val (.int i0), .val (.long j1), .second, .val (.int i3), .val (.int i4), .val (.ref b31), .unset, .unset, .unset, .unset, .unset, .unset, .unset, .unset, .unset] [(.int 101), (.int 4), (.ref b60), (.ref b60)])) _
    refine st75 _ ?_
    refine XS.dup X75.here hx rfl (hb hby at_83) rfl rfl ?_
    refine XS.iconst X75.here hx rfl (hb hby at_84) ?_
    show Steps p.tables e below (T75.setTop (mkF m 85 #[.val (.int i0), .val (.long j1), .second, .val (.int i3), .val (.int i4), .val (.ref b31), .unset, .unset, .unset, .unset, .unset, .unset, .unset, .unset, .unset] [(.int 5), (.ref b60), (.ref b60)])) _
    refine XS.bipush X75.here hx rfl (hb hby at_85) ?_
    show Steps p.tables e below (T75.setTop (mkF m 87 #[.val (.int i0), .val (.long j1), .second, .val (.int i3), .val (.int i4), .val (.ref b31), .unset, .unset, .unset, .unset, .unset, .unset, .unset, .unset, .unset] [(.int 99), (.int 5), (.ref b60), (.ref b60)])) _
    refine st78 _ ?_
    refine XS.dup X78.here hx rfl (hb hby at_88) rfl rfl ?_
    refine XS.bipush X78.here hx rfl (hb hby at_89) ?_
    show Steps p.tables e below (T78.setTop (mkF m 91 #[.val (.int i0), .val (.long j1), .second, .val (.int i3), .val (.int i4), .val (.ref b31), .unset, .unset, .unset, .unset, .unset, .unset, .unset, .unset, .unset] [(.int 6), (.ref b60), (.ref b60)])) _
    refine XS.bipush X78.here hx rfl (hb hby at_91) ?_
    show Steps p.tables e below (T78.setTop (mkF m 93 #[.val (.int i0), .val (.long j1), .second, .val (.int i3), .val (.int i4), .val (.ref b31), .unset, .unset, .unset, .unset, .unset, .unset, .unset, .unset, .unset] [(.int 116), (.int 6), (.ref b60), (.ref b60)])) _
    refine st81 _ ?_
    refine XS.dup X81.here hx rfl (hb hby at_94) rfl rfl ?_
    refine XS.bipush X81.here hx rfl (hb hby at_95) ?_
    show Steps p.tables e below (T81.setTop (mkF m 97 #[.val (.int i0), .val (.long j1), .second, .val (.int i3), .val (.int i4), .val (.ref b31), .unset, .unset, .unset, .unset, .unset, .unset, .unset, .unset, .unset] [(.int 7), (.ref b60), (.ref b60)])) _
    refine XS.bipush X81.here hx rfl (hb hby at_97) ?_
    show Steps p.tables e below (T81.setTop (mkF m 99 #[.val (.int i0), .val (.long j1), .second, .val (.int i3), .val (.int i4), .val (.ref b31), .unset, .unset, .unset, .unset, .unset, .unset, .unset, .unset, .unset] [(.int 95), (.int 7), (.ref b60), (.ref b60)])) _
    refine st84 _ ?_
    refine XS.dup X84.here hx rfl (hb hby at_100) rfl rfl ?_
    refine XS.bipush X84.here hx rfl (hb hby at_101) ?_
    show Steps p.tables e below (T84.setTop (mkF m 103 #[.val (.int i0), .val (.long j1), .second, .val (.int i3), .val (.int i4), .val (.ref b31), .unset, .unset, .unset, .unset, .unset, .unset, .unset, .unset, .unset] [(.int 8), (.ref b60), (.ref b60)])) _
    refine XS.bipush X84.here hx rfl (hb hby at_103) ?_
    show Steps p.tables e below (T84.setTop (mkF m 105 #[.val (.int i0), .val (.long j1), .second, .val (.int i3), .val (.int i4), .val (.ref b31), .unset, .unset, .unset, .unset, .unset, .unset, .unset, .unset, .unset] [(.int 105), (.int 8), (.ref b60), (.ref b60)])) _
    refine st87 _ ?_
    refine XS.dup X87.here hx rfl (hb hby at_106) rfl rfl ?_
    refine XS.bipush X87.here hx rfl (hb hby at_107) ?_
    show Steps p.tables e below (T87.setTop (mkF m 109 #[.val (.int i0), .val (.long j1), .second, .val (.int i3), .val (.int i4), .val (.ref b31), .unset, .unset, .unset, .unset, .unset, .unset, .unset, .unset, .unset] [(.int 9), (.ref b60), (.ref b60)])) _
    refine XS.bipush X87.here hx rfl (hb hby at_109) ?_
    show Steps p.tables e below (T87.setTop (mkF m 111 #[.val (.int i0), .val (.long j1), .second, .val (.int i3), .val (.int i4), .val (.ref b31), .unset, .unset, .unset, .unset, .unset, .unset, .unset, .unset, .unset] [(.int 100), (.int 9), (.ref b60), (.ref b60)])) _
    refine st90 _ ?_
    refine XS.astore X90.here hx rfl (hb hby at_112) rfl rfl (l' := #[.val (.int i0), .val (.long j1), .second, .val (.int i3), .val (.int i4), .val (.ref b31), .val (.ref b60), .unset, .unset, .unset, .unset, .unset, .unset, .unset, .unset]) rfl ?_
    refine XS.iconst X90.here hx rfl (hb hby at_114) ?_
    show Steps p.tables e below (T90.setTop (mkF m 115 #[.val (.int i0), .val (.long j1), .second, .val (.int i3), .val (.int i4), .val (.ref b31), .val (.ref b60), .unset, .unset, .unset, .unset, .unset, .unset, .unset, .unset] [(.int 1)])) _
    refine XS.istore X90.here hx rfl (hb hby at_115) rfl (l' := #[.val (.int i0), .val (.long j1), .second, .val (.int i3), .val (.int i4), .val (.ref b31), .val (.ref b60), .val (.int 1), .unset, .unset, .unset, .unset, .unset, .unset, .unset]) rfl ?_
    exact kk)
  refine cps (A := ∃ (ti : Int32) (ta : Slot) (tb : Slot) (x0 : Int32) (x1 : Int32) (x2 : Int32) (x3 : Int32) (x4 : Int32) (x5 : Int32) (x6 : Int32) (x7 : Int32) (x8 : Int32) (T : State) (Lq : List Loc), Stand p l e room_1 s m #[(.int i0), (.long j1), (.int i3), (.int i4)] below meth c T Lq 2 19 ∧ Fr n0 Lq ∧ Keep h90 T.heap [b31] ∧ (∀ tz_, Steps p.tables e below (T.setTop (mkF m 166 #[.val (.int i0), .val (.long j1), .second, .val (.int i3), .val (.int i4), .val (.ref b31), .val (.ref b60), .val (.int ti), ta, tb, .unset, .unset, .unset, .unset, .unset] [])) tz_ → Steps p.tables e below (s₁.setTop (entryFrame m #[(.int i0), (.long j1), (.int i3), (.int i4)] maxLocals)) tz_) ∧ (Arv Z T.heap b31 k31 .char (9 : Int32) [(.int x0), (.int x1), (.int x2), (.int x3), (.int x4), (.int x5), (.int x6), (.int x7), (.int x8)] (.int 0)) ∧ ((¬ (ti = (0 : Int32)) → [x0, x1, x2, x3, x4, x5, x6, x7, x8] = TN) ∧ (ti = (0 : Int32) → Ed TN [x0, x1, x2, x3, x4, x5, x6, x7, x8])) ∧ (One ta) ∧ (One tb) ∧ (Ch x0) ∧ (Ch x1) ∧ (Ch x2) ∧ (Ch x3) ∧ (Ch x4) ∧ (Ch x5) ∧ (Ch x6) ∧ (Ch x7) ∧ (Ch x8)) (fun tail93 => ?_) ?_
  · skip
    have pre94 : ∀ tz_, Steps p.tables e below (T90.setTop (mkF m 122 #[.val (.int i0), .val (.long j1), .second, .val (.int i3), .val (.int i4), .val (.ref b31), .val (.ref b60), .val (.int 1), .unset, .unset, .unset, .unset, .unset, .unset, .unset] [(.int (i3 &&& (256 : Int32)))])) tz_ → Steps p.tables e below (s₁.setTop (entryFrame m #[(.int i0), (.long j1), (.int i3), (.int i4)] maxLocals)) tz_ := fun tz_ kk => pre92 tz_ (by
      show Steps p.tables e below (T90.setTop (mkF m 117 #[.val (.int i0), .val (.long j1), .second, .val (.int i3), .val (.int i4), .val (.ref b31), .val (.ref b60), .val (.int 1), .unset, .unset, .unset, .unset, .unset, .unset, .unset] [])) _
      refine XS.iloadN X90.here hx rfl (hb hby at_117) rfl ?_
      refine XS.sipush X90.here hx rfl (hb hby at_118) ?_
      show Steps p.tables e below (T90.setTop (mkF m 121 #[.val (.int i0), .val (.long j1), .second, .val (.int i3), .val (.int i4), .val (.ref b31), .val (.ref b60), .val (.int 1), .unset, .unset, .unset, .unset, .unset, .unset, .unset] [(.int 256), (.int i3)])) _
      refine XS.iand X90.here hx rfl (hb hby at_121) rfl ?_
      exact kk)
    by_cases hc95 : (i3 &&& (256 : Int32)) = (0 : Int32)
    · skip
      have pre96 : ∀ tz_, Steps p.tables e below (T90.setTop (mkF m 166 #[.val (.int i0), .val (.long j1), .second, .val (.int i3), .val (.int i4), .val (.ref b31), .val (.ref b60), .val (.int 1), .unset, .unset, .unset, .unset, .unset, .unset, .unset] [])) tz_ → Steps p.tables e below (s₁.setTop (entryFrame m #[(.int i0), (.long j1), (.int i3), (.int i4)] maxLocals)) tz_ := fun tz_ kk => pre94 tz_ (by
        show Steps p.tables e below (T90.setTop (mkF m 122 #[.val (.int i0), .val (.long j1), .second, .val (.int i3), .val (.int i4), .val (.ref b31), .val (.ref b60), .val (.int 1), .unset, .unset, .unset, .unset, .unset, .unset, .unset] [(.int (i3 &&& (256 : Int32)))])) _
        refine XS.ifYes X90.here hx rfl (pc0 := 122) (pc' := 166) rfl (hb hby at_122) rfl ((if0 _ _).trans (teq hc95).1) (by decide) (by decide) ?_
        exact kk)
      have ne97 : b31 ≠ b60 := (Nat.ne_of_lt (Nat.lt_of_lt_of_le V58.lt (Nat.le_of_eq q60.symm)))
      have f98 := (((((((((((V58.ext E60).other W63 ne97).other W66 ne97).other W69 ne97).other W72 ne97).other W75 ne97).other W78 ne97).other W81 ne97).other W84 ne97).other W87 ne97).other W90 ne97)
      exact tail93 ⟨(1 : Int32), (.unset), (.unset), (116 : Int32), (101 : Int32), (110 : Int32), (97 : Int32), (110 : Int32), (116 : Int32), (95 : Int32), (105 : Int32), (100 : Int32), T90, _, X90.more (by decide) (by decide), N90, (by rw [e90]; exact (Keep.refl h90 [b31])), pre96, (by rw [e90]; exact f98), ⟨fun _ => rfl, fun h => absurd h (by decide)⟩, One.u, One.u, (by unfold Ch; decide), (by unfold Ch; decide), (by unfold Ch; decide), (by unfold Ch; decide), (by unfold Ch; decide), (by unfold Ch; decide), (by unfold Ch; decide), (by unfold Ch; decide), (by unfold Ch; decide)⟩
    · skip
      have pre99 : ∀ tz_, Steps p.tables e below (T90.setTop (mkF m 142 #[.val (.int i0), .val (.long j1), .second, .val (.int i3), .val (.int i4), .val (.ref b31), .val (.ref b60), .val (.int 1), .val (.int (((i3.toUInt32 >>> ((9 : Int32) &&& 31).toUInt32).toInt32) % (9 : Int32))), .val (.int (i3 &&& (255 : Int32))), .unset, .unset, .unset, .unset, .unset] [])) tz_ → Steps p.tables e below (s₁.setTop (entryFrame m #[(.int i0), (.long j1), (.int i3), (.int i4)] maxLocals)) tz_ := fun tz_ kk => pre94 tz_ (by
        show Steps p.tables e below (T90.setTop (mkF m 122 #[.val (.int i0), .val (.long j1), .second, .val (.int i3), .val (.int i4), .val (.ref b31), .val (.ref b60), .val (.int 1), .unset, .unset, .unset, .unset, .unset, .unset, .unset] [(.int (i3 &&& (256 : Int32)))])) _
        refine XS.ifNo X90.here hx rfl (hb hby at_122) rfl ((if0 _ _).trans (feq hc95).1) ?_
        refine XS.iloadN X90.here hx rfl (hb hby at_125) rfl ?_
        refine XS.bipush X90.here hx rfl (hb hby at_126) ?_
        show Steps p.tables e below (T90.setTop (mkF m 128 #[.val (.int i0), .val (.long j1), .second, .val (.int i3), .val (.int i4), .val (.ref b31), .val (.ref b60), .val (.int 1), .unset, .unset, .unset, .unset, .unset, .unset, .unset] [(.int 9), (.int i3)])) _
        refine XS.iushr X90.here hx rfl (hb hby at_128) rfl ?_
        show Steps p.tables e below (T90.setTop (mkF m 129 #[.val (.int i0), .val (.long j1), .second, .val (.int i3), .val (.int i4), .val (.ref b31), .val (.ref b60), .val (.int 1), .unset, .unset, .unset, .unset, .unset, .unset, .unset] [(.int ((i3.toUInt32 >>> ((9 : Int32) &&& 31).toUInt32).toInt32))])) _
        refine XS.bipush X90.here hx rfl (hb hby at_129) ?_
        show Steps p.tables e below (T90.setTop (mkF m 131 #[.val (.int i0), .val (.long j1), .second, .val (.int i3), .val (.int i4), .val (.ref b31), .val (.ref b60), .val (.int 1), .unset, .unset, .unset, .unset, .unset, .unset, .unset] [(.int 9), (.int ((i3.toUInt32 >>> ((9 : Int32) &&& 31).toUInt32).toInt32))])) _
        refine Jvm.RoadKit.iremM X90 hx rfl (hb hby at_131) rfl (by decide) ?_
        refine XS.istore X90.here hx rfl (hb hby at_132) rfl (l' := #[.val (.int i0), .val (.long j1), .second, .val (.int i3), .val (.int i4), .val (.ref b31), .val (.ref b60), .val (.int 1), .val (.int (((i3.toUInt32 >>> ((9 : Int32) &&& 31).toUInt32).toInt32) % (9 : Int32))), .unset, .unset, .unset, .unset, .unset, .unset]) rfl ?_
        refine XS.iloadN X90.here hx rfl (hb hby at_134) rfl ?_
        show Steps p.tables e below (T90.setTop (mkF m 135 #[.val (.int i0), .val (.long j1), .second, .val (.int i3), .val (.int i4), .val (.ref b31), .val (.ref b60), .val (.int 1), .val (.int (((i3.toUInt32 >>> ((9 : Int32) &&& 31).toUInt32).toInt32) % (9 : Int32))), .unset, .unset, .unset, .unset, .unset, .unset] [(.int i3)])) _
        refine XS.sipush X90.here hx rfl (hb hby at_135) ?_
        show Steps p.tables e below (T90.setTop (mkF m 138 #[.val (.int i0), .val (.long j1), .second, .val (.int i3), .val (.int i4), .val (.ref b31), .val (.ref b60), .val (.int 1), .val (.int (((i3.toUInt32 >>> ((9 : Int32) &&& 31).toUInt32).toInt32) % (9 : Int32))), .unset, .unset, .unset, .unset, .unset, .unset] [(.int 255), (.int i3)])) _
        refine XS.iand X90.here hx rfl (hb hby at_138) rfl ?_
        show Steps p.tables e below (T90.setTop (mkF m 139 #[.val (.int i0), .val (.long j1), .second, .val (.int i3), .val (.int i4), .val (.ref b31), .val (.ref b60), .val (.int 1), .val (.int (((i3.toUInt32 >>> ((9 : Int32) &&& 31).toUInt32).toInt32) % (9 : Int32))), .unset, .unset, .unset, .unset, .unset, .unset] [(.int (i3 &&& (255 : Int32)))])) _
        refine XS.i2c X90.here hx rfl (hb hby at_139) rfl ?_
        show Steps p.tables e below (T90.setTop (mkF m 140 #[.val (.int i0), .val (.long j1), .second, .val (.int i3), .val (.int i4), .val (.ref b31), .val (.ref b60), .val (.int 1), .val (.int (((i3.toUInt32 >>> ((9 : Int32) &&& 31).toUInt32).toInt32) % (9 : Int32))), .unset, .unset, .unset, .unset, .unset, .unset] [(.int ((i3 &&& (255 : Int32)).toUInt32.toUInt16.toUInt32.toInt32))])) _
        rw [i2c_mask]
        refine XS.istore X90.here hx rfl (hb hby at_140) rfl (l' := #[.val (.int i0), .val (.long j1), .second, .val (.int i3), .val (.int i4), .val (.ref b31), .val (.ref b60), .val (.int 1), .val (.int (((i3.toUInt32 >>> ((9 : Int32) &&& 31).toUInt32).toInt32) % (9 : Int32))), .val (.int (i3 &&& (255 : Int32))), .unset, .unset, .unset, .unset, .unset]) rfl ?_
        exact kk)
      rcases (own_k9 i3) with hk100 | hk100 | hk100 | hk100 | hk100 | hk100 | hk100 | hk100 | hk100
      · skip
        have pre101 := pre99
        rw [hk100] at pre101
        have ne102 : b31 ≠ b60 := (Nat.ne_of_lt (Nat.lt_of_lt_of_le V58.lt (Nat.le_of_eq q60.symm)))
        have f103 := (((((((((((V58.ext E60).other W63 ne102).other W66 ne102).other W69 ne102).other W72 ne102).other W75 ne102).other W78 ne102).other W81 ne102).other W84 ne102).other W87 ne102).other W90 ne102)
        obtain ⟨cl104, Ar104, qk104, qs104, qn104, qh104, qg104⟩ := id f103
        have hin104 : ¬ ((0 : Int32) < 0 ∨ cl104.slots.size ≤ ((0 : Int32)).toNatClampNeg) := inb_of qs104 ⟨by decide, by decide⟩
        have hat104 : cl104.slots[((0 : Int32)).toNatClampNeg]? = some (.int 116) := qh104.at hin104 rfl
        have pre105 : ∀ tz_, Steps p.tables e below (T90.setTop (mkF m 149 #[.val (.int i0), .val (.long j1), .second, .val (.int i3), .val (.int i4), .val (.ref b31), .val (.ref b60), .val (.int 1), .val (.int 0), .val (.int (i3 &&& (255 : Int32))), .unset, .unset, .unset, .unset, .unset] [(.int (i3 &&& (255 : Int32))), (.int 116)])) tz_ → Steps p.tables e below (s₁.setTop (entryFrame m #[(.int i0), (.long j1), (.int i3), (.int i4)] maxLocals)) tz_ := fun tz_ kk => pre101 tz_ (by
          show Steps p.tables e below (T90.setTop (mkF m 142 #[.val (.int i0), .val (.long j1), .second, .val (.int i3), .val (.int i4), .val (.ref b31), .val (.ref b60), .val (.int 1), .val (.int 0), .val (.int (i3 &&& (255 : Int32))), .unset, .unset, .unset, .unset, .unset] [])) _
          refine XS.aload X90.here hx rfl (hb hby at_142) rfl rfl ?_
          refine XS.iload X90.here hx rfl (hb hby at_144) rfl ?_
          show Steps p.tables e below (T90.setTop (mkF m 146 #[.val (.int i0), .val (.long j1), .second, .val (.int i3), .val (.int i4), .val (.ref b31), .val (.ref b60), .val (.int 1), .val (.int 0), .val (.int (i3 &&& (255 : Int32))), .unset, .unset, .unset, .unset, .unset] [(.int 0), (.ref b31)])) _
          refine X90.caload hx (j := (0 : Int32)) (v := (.int 116)) (by rw [e90]; exact Ar104.1) (State.isArrayOf_alike hZ.alike Ar104.2.1) Ar104.2.2 hin104 hat104 (g := (mkF m 146 #[.val (.int i0), .val (.long j1), .second, .val (.int i3), .val (.int i4), .val (.ref b31), .val (.ref b60), .val (.int 1), .val (.int 0), .val (.int (i3 &&& (255 : Int32))), .unset, .unset, .unset, .unset, .unset] [(.int 0), (.ref b31)])) rfl rfl (hb hby at_146) _ ?_
          refine XS.iload X90.here hx rfl (hb hby at_147) rfl ?_
          exact kk)
        by_cases hc106 : (116 : Int32) = (i3 &&& (255 : Int32))
        · skip
          obtain ⟨cl107, Ar107, qk107, qs107, qn107, qh107, qg107⟩ := id f103
          have hin107 : ¬ ((0 : Int32) < 0 ∨ cl107.slots.size ≤ ((0 : Int32)).toNatClampNeg) := inb_of qs107 ⟨by decide, by decide⟩
          obtain ⟨T108, h108, X108, e108, W108, st108⟩ := stC X90 hx hZ e90 Ar107 (j := (0 : Int32)) hin107 (g := (mkF m 165 #[.val (.int i0), .val (.long j1), .second, .val (.int i3), .val (.int i4), .val (.ref b31), .val (.ref b60), .val (.int 1), .val (.int 0), .val (.int (i3 &&& (255 : Int32))), .unset, .unset, .unset, .unset, .unset] [(.int (i3 &&& (255 : Int32))), (.int 0), (.ref b31)])) rfl rfl (hb hby at_165)
          have V108 : Arv Z h108 b31 k31 .char (9 : Int32) [(.int ((i3 &&& (255 : Int32)).toUInt32.toUInt16.toUInt32.toInt32)), (.int 101), (.int 110), (.int 97), (.int 110), (.int 116), (.int 95), (.int 105), (.int 100)] (.int 0) := Arv.set Ar107 qk107 qs107 qn107 qh107 qg107 (fits_nar_char _) W108 0 rfl (Nat.le_of_ble_eq_true rfl)
          rw [i2c_mask] at V108
          have N108 := Fr.snoc X108 N90 g_b31
          have K109 := K91.wr W108 (Or.inr sz_b31)
          have O109 := O91.wr W108 g_b31
          have pre110 : ∀ tz_, Steps p.tables e below (T108.setTop (mkF m 166 #[.val (.int i0), .val (.long j1), .second, .val (.int i3), .val (.int i4), .val (.ref b31), .val (.ref b60), .val (.int 1), .val (.int 0), .val (.int (i3 &&& (255 : Int32))), .unset, .unset, .unset, .unset, .unset] [])) tz_ → Steps p.tables e below (s₁.setTop (entryFrame m #[(.int i0), (.long j1), (.int i3), (.int i4)] maxLocals)) tz_ := fun tz_ kk => pre105 tz_ (by
            show Steps p.tables e below (T90.setTop (mkF m 149 #[.val (.int i0), .val (.long j1), .second, .val (.int i3), .val (.int i4), .val (.ref b31), .val (.ref b60), .val (.int 1), .val (.int 0), .val (.int (i3 &&& (255 : Int32))), .unset, .unset, .unset, .unset, .unset] [(.int (i3 &&& (255 : Int32))), (.int 116)])) _
            refine XS.icmpNo X90.here hx rfl (hb hby at_149) rfl (teq hc106).2 ?_
            refine XS.iconst X90.here hx rfl (hb hby at_152) ?_
            refine XS.goto X90.here hx rfl (pc0 := 153) (pc' := 157) rfl (hb hby at_153) (by decide) (by decide) ?_
            refine XS.istore X90.here hx rfl (hb hby at_157) rfl (l' := #[.val (.int i0), .val (.long j1), .second, .val (.int i3), .val (.int i4), .val (.ref b31), .val (.ref b60), .val (.int 1), .val (.int 0), .val (.int (i3 &&& (255 : Int32))), .unset, .unset, .unset, .unset, .unset]) rfl ?_
            show Steps p.tables e below (T90.setTop (mkF m 159 #[.val (.int i0), .val (.long j1), .second, .val (.int i3), .val (.int i4), .val (.ref b31), .val (.ref b60), .val (.int 1), .val (.int 0), .val (.int (i3 &&& (255 : Int32))), .unset, .unset, .unset, .unset, .unset] [])) _
            refine XS.aload X90.here hx rfl (hb hby at_159) rfl rfl ?_
            refine XS.iload X90.here hx rfl (hb hby at_161) rfl ?_
            refine XS.iload X90.here hx rfl (hb hby at_163) rfl ?_
            show Steps p.tables e below (T90.setTop (mkF m 165 #[.val (.int i0), .val (.long j1), .second, .val (.int i3), .val (.int i4), .val (.ref b31), .val (.ref b60), .val (.int 1), .val (.int 0), .val (.int (i3 &&& (255 : Int32))), .unset, .unset, .unset, .unset, .unset] [(.int (i3 &&& (255 : Int32))), (.int 0), (.ref b31)])) _
            refine st108 _ ?_
            exact kk)
          exact tail93 ⟨(1 : Int32), (.val (.int 0)), (.val (.int (i3 &&& (255 : Int32)))), (i3 &&& (255 : Int32)), (101 : Int32), (110 : Int32), (97 : Int32), (110 : Int32), (116 : Int32), (95 : Int32), (105 : Int32), (100 : Int32), T108, _, X108.more (by decide) (by decide), N108, (by rw [e108]; exact ((Keep.refl h90 [b31]).wr W108 (Or.inl (List.mem_of_getElem? (i := 0) rfl)))), pre110, (by rw [e108]; exact V108), ⟨fun _ => by rw [← hc106]; rfl, fun h => absurd h (by decide)⟩, (One.val rfl), (One.val rfl), own_chm i3, (by unfold Ch; decide), (by unfold Ch; decide), (by unfold Ch; decide), (by unfold Ch; decide), (by unfold Ch; decide), (by unfold Ch; decide), (by unfold Ch; decide), (by unfold Ch; decide)⟩
        · skip
          obtain ⟨cl111, Ar111, qk111, qs111, qn111, qh111, qg111⟩ := id f103
          have hin111 : ¬ ((0 : Int32) < 0 ∨ cl111.slots.size ≤ ((0 : Int32)).toNatClampNeg) := inb_of qs111 ⟨by decide, by decide⟩
          obtain ⟨T112, h112, X112, e112, W112, st112⟩ := stC X90 hx hZ e90 Ar111 (j := (0 : Int32)) hin111 (g := (mkF m 165 #[.val (.int i0), .val (.long j1), .second, .val (.int i3), .val (.int i4), .val (.ref b31), .val (.ref b60), .val (.int 0), .val (.int 0), .val (.int (i3 &&& (255 : Int32))), .unset, .unset, .unset, .unset, .unset] [(.int (i3 &&& (255 : Int32))), (.int 0), (.ref b31)])) rfl rfl (hb hby at_165)
          have V112 : Arv Z h112 b31 k31 .char (9 : Int32) [(.int ((i3 &&& (255 : Int32)).toUInt32.toUInt16.toUInt32.toInt32)), (.int 101), (.int 110), (.int 97), (.int 110), (.int 116), (.int 95), (.int 105), (.int 100)] (.int 0) := Arv.set Ar111 qk111 qs111 qn111 qh111 qg111 (fits_nar_char _) W112 0 rfl (Nat.le_of_ble_eq_true rfl)
          rw [i2c_mask] at V112
          have N112 := Fr.snoc X112 N90 g_b31
          have K113 := K91.wr W112 (Or.inr sz_b31)
          have O113 := O91.wr W112 g_b31
          have pre114 : ∀ tz_, Steps p.tables e below (T112.setTop (mkF m 166 #[.val (.int i0), .val (.long j1), .second, .val (.int i3), .val (.int i4), .val (.ref b31), .val (.ref b60), .val (.int 0), .val (.int 0), .val (.int (i3 &&& (255 : Int32))), .unset, .unset, .unset, .unset, .unset] [])) tz_ → Steps p.tables e below (s₁.setTop (entryFrame m #[(.int i0), (.long j1), (.int i3), (.int i4)] maxLocals)) tz_ := fun tz_ kk => pre105 tz_ (by
            show Steps p.tables e below (T90.setTop (mkF m 149 #[.val (.int i0), .val (.long j1), .second, .val (.int i3), .val (.int i4), .val (.ref b31), .val (.ref b60), .val (.int 1), .val (.int 0), .val (.int (i3 &&& (255 : Int32))), .unset, .unset, .unset, .unset, .unset] [(.int (i3 &&& (255 : Int32))), (.int 116)])) _
            refine XS.icmpYes X90.here hx rfl (pc0 := 149) (pc' := 156) rfl (hb hby at_149) rfl (feq hc106).2 (by decide) (by decide) ?_
            show Steps p.tables e below (T90.setTop (mkF m 156 #[.val (.int i0), .val (.long j1), .second, .val (.int i3), .val (.int i4), .val (.ref b31), .val (.ref b60), .val (.int 1), .val (.int 0), .val (.int (i3 &&& (255 : Int32))), .unset, .unset, .unset, .unset, .unset] [])) _
            refine XS.iconst X90.here hx rfl (hb hby at_156) ?_
            refine XS.istore X90.here hx rfl (hb hby at_157) rfl (l' := #[.val (.int i0), .val (.long j1), .second, .val (.int i3), .val (.int i4), .val (.ref b31), .val (.ref b60), .val (.int 0), .val (.int 0), .val (.int (i3 &&& (255 : Int32))), .unset, .unset, .unset, .unset, .unset]) rfl ?_
            refine XS.aload X90.here hx rfl (hb hby at_159) rfl rfl ?_
            refine XS.iload X90.here hx rfl (hb hby at_161) rfl ?_
            show Steps p.tables e below (T90.setTop (mkF m 163 #[.val (.int i0), .val (.long j1), .second, .val (.int i3), .val (.int i4), .val (.ref b31), .val (.ref b60), .val (.int 0), .val (.int 0), .val (.int (i3 &&& (255 : Int32))), .unset, .unset, .unset, .unset, .unset] [(.int 0), (.ref b31)])) _
            refine XS.iload X90.here hx rfl (hb hby at_163) rfl ?_
            show Steps p.tables e below (T90.setTop (mkF m 165 #[.val (.int i0), .val (.long j1), .second, .val (.int i3), .val (.int i4), .val (.ref b31), .val (.ref b60), .val (.int 0), .val (.int 0), .val (.int (i3 &&& (255 : Int32))), .unset, .unset, .unset, .unset, .unset] [(.int (i3 &&& (255 : Int32))), (.int 0), (.ref b31)])) _
            refine st112 _ ?_
            exact kk)
          exact tail93 ⟨(0 : Int32), (.val (.int 0)), (.val (.int (i3 &&& (255 : Int32)))), (i3 &&& (255 : Int32)), (101 : Int32), (110 : Int32), (97 : Int32), (110 : Int32), (116 : Int32), (95 : Int32), (105 : Int32), (100 : Int32), T112, _, X112.more (by decide) (by decide), N112, (by rw [e112]; exact ((Keep.refl h90 [b31]).wr W112 (Or.inl (List.mem_of_getElem? (i := 0) rfl)))), pre114, (by rw [e112]; exact V112), ⟨fun h => absurd rfl h, fun _ => ⟨0, _, by decide, rfl, hc106⟩⟩, (One.val rfl), (One.val rfl), own_chm i3, (by unfold Ch; decide), (by unfold Ch; decide), (by unfold Ch; decide), (by unfold Ch; decide), (by unfold Ch; decide), (by unfold Ch; decide), (by unfold Ch; decide), (by unfold Ch; decide)⟩
      · skip
        have pre115 := pre99
        rw [hk100] at pre115
        have ne116 : b31 ≠ b60 := (Nat.ne_of_lt (Nat.lt_of_lt_of_le V58.lt (Nat.le_of_eq q60.symm)))
        have f117 := (((((((((((V58.ext E60).other W63 ne116).other W66 ne116).other W69 ne116).other W72 ne116).other W75 ne116).other W78 ne116).other W81 ne116).other W84 ne116).other W87 ne116).other W90 ne116)
        obtain ⟨cl118, Ar118, qk118, qs118, qn118, qh118, qg118⟩ := id f117
        have hin118 : ¬ ((1 : Int32) < 0 ∨ cl118.slots.size ≤ ((1 : Int32)).toNatClampNeg) := inb_of qs118 ⟨by decide, by decide⟩
        have hat118 : cl118.slots[((1 : Int32)).toNatClampNeg]? = some (.int 101) := qh118.at hin118 rfl
        have pre119 : ∀ tz_, Steps p.tables e below (T90.setTop (mkF m 149 #[.val (.int i0), .val (.long j1), .second, .val (.int i3), .val (.int i4), .val (.ref b31), .val (.ref b60), .val (.int 1), .val (.int 1), .val (.int (i3 &&& (255 : Int32))), .unset, .unset, .unset, .unset, .unset] [(.int (i3 &&& (255 : Int32))), (.int 101)])) tz_ → Steps p.tables e below (s₁.setTop (entryFrame m #[(.int i0), (.long j1), (.int i3), (.int i4)] maxLocals)) tz_ := fun tz_ kk => pre115 tz_ (by
          show Steps p.tables e below (T90.setTop (mkF m 142 #[.val (.int i0), .val (.long j1), .second, .val (.int i3), .val (.int i4), .val (.ref b31), .val (.ref b60), .val (.int 1), .val (.int 1), .val (.int (i3 &&& (255 : Int32))), .unset, .unset, .unset, .unset, .unset] [])) _
          refine XS.aload X90.here hx rfl (hb hby at_142) rfl rfl ?_
          refine XS.iload X90.here hx rfl (hb hby at_144) rfl ?_
          show Steps p.tables e below (T90.setTop (mkF m 146 #[.val (.int i0), .val (.long j1), .second, .val (.int i3), .val (.int i4), .val (.ref b31), .val (.ref b60), .val (.int 1), .val (.int 1), .val (.int (i3 &&& (255 : Int32))), .unset, .unset, .unset, .unset, .unset] [(.int 1), (.ref b31)])) _
          refine X90.caload hx (j := (1 : Int32)) (v := (.int 101)) (by rw [e90]; exact Ar118.1) (State.isArrayOf_alike hZ.alike Ar118.2.1) Ar118.2.2 hin118 hat118 (g := (mkF m 146 #[.val (.int i0), .val (.long j1), .second, .val (.int i3), .val (.int i4), .val (.ref b31), .val (.ref b60), .val (.int 1), .val (.int 1), .val (.int (i3 &&& (255 : Int32))), .unset, .unset, .unset, .unset, .unset] [(.int 1), (.ref b31)])) rfl rfl (hb hby at_146) _ ?_
          refine XS.iload X90.here hx rfl (hb hby at_147) rfl ?_
          exact kk)
        by_cases hc120 : (101 : Int32) = (i3 &&& (255 : Int32))
        · skip
          obtain ⟨cl121, Ar121, qk121, qs121, qn121, qh121, qg121⟩ := id f117
          have hin121 : ¬ ((1 : Int32) < 0 ∨ cl121.slots.size ≤ ((1 : Int32)).toNatClampNeg) := inb_of qs121 ⟨by decide, by decide⟩
          obtain ⟨T122, h122, X122, e122, W122, st122⟩ := stC X90 hx hZ e90 Ar121 (j := (1 : Int32)) hin121 (g := (mkF m 165 #[.val (.int i0), .val (.long j1), .second, .val (.int i3), .val (.int i4), .val (.ref b31), .val (.ref b60), .val (.int 1), .val (.int 1), .val (.int (i3 &&& (255 : Int32))), .unset, .unset, .unset, .unset, .unset] [(.int (i3 &&& (255 : Int32))), (.int 1), (.ref b31)])) rfl rfl (hb hby at_165)
          have V122 : Arv Z h122 b31 k31 .char (9 : Int32) [(.int 116), (.int ((i3 &&& (255 : Int32)).toUInt32.toUInt16.toUInt32.toInt32)), (.int 110), (.int 97), (.int 110), (.int 116), (.int 95), (.int 105), (.int 100)] (.int 0) := Arv.set Ar121 qk121 qs121 qn121 qh121 qg121 (fits_nar_char _) W122 1 rfl (Nat.le_of_ble_eq_true rfl)
          rw [i2c_mask] at V122
          have N122 := Fr.snoc X122 N90 g_b31
          have K123 := K91.wr W122 (Or.inr sz_b31)
          have O123 := O91.wr W122 g_b31
          have pre124 : ∀ tz_, Steps p.tables e below (T122.setTop (mkF m 166 #[.val (.int i0), .val (.long j1), .second, .val (.int i3), .val (.int i4), .val (.ref b31), .val (.ref b60), .val (.int 1), .val (.int 1), .val (.int (i3 &&& (255 : Int32))), .unset, .unset, .unset, .unset, .unset] [])) tz_ → Steps p.tables e below (s₁.setTop (entryFrame m #[(.int i0), (.long j1), (.int i3), (.int i4)] maxLocals)) tz_ := fun tz_ kk => pre119 tz_ (by
            show Steps p.tables e below (T90.setTop (mkF m 149 #[.val (.int i0), .val (.long j1), .second, .val (.int i3), .val (.int i4), .val (.ref b31), .val (.ref b60), .val (.int 1), .val (.int 1), .val (.int (i3 &&& (255 : Int32))), .unset, .unset, .unset, .unset, .unset] [(.int (i3 &&& (255 : Int32))), (.int 101)])) _
            refine XS.icmpNo X90.here hx rfl (hb hby at_149) rfl (teq hc120).2 ?_
            refine XS.iconst X90.here hx rfl (hb hby at_152) ?_
            show Steps p.tables e below (T90.setTop (mkF m 153 #[.val (.int i0), .val (.long j1), .second, .val (.int i3), .val (.int i4), .val (.ref b31), .val (.ref b60), .val (.int 1), .val (.int 1), .val (.int (i3 &&& (255 : Int32))), .unset, .unset, .unset, .unset, .unset] [(.int 1)])) _
            refine XS.goto X90.here hx rfl (pc0 := 153) (pc' := 157) rfl (hb hby at_153) (by decide) (by decide) ?_
            refine XS.istore X90.here hx rfl (hb hby at_157) rfl (l' := #[.val (.int i0), .val (.long j1), .second, .val (.int i3), .val (.int i4), .val (.ref b31), .val (.ref b60), .val (.int 1), .val (.int 1), .val (.int (i3 &&& (255 : Int32))), .unset, .unset, .unset, .unset, .unset]) rfl ?_
            refine XS.aload X90.here hx rfl (hb hby at_159) rfl rfl ?_
            refine XS.iload X90.here hx rfl (hb hby at_161) rfl ?_
            show Steps p.tables e below (T90.setTop (mkF m 163 #[.val (.int i0), .val (.long j1), .second, .val (.int i3), .val (.int i4), .val (.ref b31), .val (.ref b60), .val (.int 1), .val (.int 1), .val (.int (i3 &&& (255 : Int32))), .unset, .unset, .unset, .unset, .unset] [(.int 1), (.ref b31)])) _
            refine XS.iload X90.here hx rfl (hb hby at_163) rfl ?_
            show Steps p.tables e below (T90.setTop (mkF m 165 #[.val (.int i0), .val (.long j1), .second, .val (.int i3), .val (.int i4), .val (.ref b31), .val (.ref b60), .val (.int 1), .val (.int 1), .val (.int (i3 &&& (255 : Int32))), .unset, .unset, .unset, .unset, .unset] [(.int (i3 &&& (255 : Int32))), (.int 1), (.ref b31)])) _
            refine st122 _ ?_
            exact kk)
          exact tail93 ⟨(1 : Int32), (.val (.int 1)), (.val (.int (i3 &&& (255 : Int32)))), (116 : Int32), (i3 &&& (255 : Int32)), (110 : Int32), (97 : Int32), (110 : Int32), (116 : Int32), (95 : Int32), (105 : Int32), (100 : Int32), T122, _, X122.more (by decide) (by decide), N122, (by rw [e122]; exact ((Keep.refl h90 [b31]).wr W122 (Or.inl (List.mem_of_getElem? (i := 0) rfl)))), pre124, (by rw [e122]; exact V122), ⟨fun _ => by rw [← hc120]; rfl, fun h => absurd h (by decide)⟩, (One.val rfl), (One.val rfl), (by unfold Ch; decide), own_chm i3, (by unfold Ch; decide), (by unfold Ch; decide), (by unfold Ch; decide), (by unfold Ch; decide), (by unfold Ch; decide), (by unfold Ch; decide), (by unfold Ch; decide)⟩
        · skip
          obtain ⟨cl125, Ar125, qk125, qs125, qn125, qh125, qg125⟩ := id f117
          have hin125 : ¬ ((1 : Int32) < 0 ∨ cl125.slots.size ≤ ((1 : Int32)).toNatClampNeg) := inb_of qs125 ⟨by decide, by decide⟩
          obtain ⟨T126, h126, X126, e126, W126, st126⟩ := stC X90 hx hZ e90 Ar125 (j := (1 : Int32)) hin125 (g := (mkF m 165 #[.val (.int i0), .val (.long j1), .second, .val (.int i3), .val (.int i4), .val (.ref b31), .val (.ref b60), .val (.int 0), .val (.int 1), .val (.int (i3 &&& (255 : Int32))), .unset, .unset, .unset, .unset, .unset] [(.int (i3 &&& (255 : Int32))), (.int 1), (.ref b31)])) rfl rfl (hb hby at_165)
          have V126 : Arv Z h126 b31 k31 .char (9 : Int32) [(.int 116), (.int ((i3 &&& (255 : Int32)).toUInt32.toUInt16.toUInt32.toInt32)), (.int 110), (.int 97), (.int 110), (.int 116), (.int 95), (.int 105), (.int 100)] (.int 0) := Arv.set Ar125 qk125 qs125 qn125 qh125 qg125 (fits_nar_char _) W126 1 rfl (Nat.le_of_ble_eq_true rfl)
          rw [i2c_mask] at V126
          have N126 := Fr.snoc X126 N90 g_b31
          have K127 := K91.wr W126 (Or.inr sz_b31)
          have O127 := O91.wr W126 g_b31
          have pre128 : ∀ tz_, Steps p.tables e below (T126.setTop (mkF m 166 #[.val (.int i0), .val (.long j1), .second, .val (.int i3), .val (.int i4), .val (.ref b31), .val (.ref b60), .val (.int 0), .val (.int 1), .val (.int (i3 &&& (255 : Int32))), .unset, .unset, .unset, .unset, .unset] [])) tz_ → Steps p.tables e below (s₁.setTop (entryFrame m #[(.int i0), (.long j1), (.int i3), (.int i4)] maxLocals)) tz_ := fun tz_ kk => pre119 tz_ (by
            show Steps p.tables e below (T90.setTop (mkF m 149 #[.val (.int i0), .val (.long j1), .second, .val (.int i3), .val (.int i4), .val (.ref b31), .val (.ref b60), .val (.int 1), .val (.int 1), .val (.int (i3 &&& (255 : Int32))), .unset, .unset, .unset, .unset, .unset] [(.int (i3 &&& (255 : Int32))), (.int 101)])) _
            refine XS.icmpYes X90.here hx rfl (pc0 := 149) (pc' := 156) rfl (hb hby at_149) rfl (feq hc120).2 (by decide) (by decide) ?_
            refine XS.iconst X90.here hx rfl (hb hby at_156) ?_
            refine XS.istore X90.here hx rfl (hb hby at_157) rfl (l' := #[.val (.int i0), .val (.long j1), .second, .val (.int i3), .val (.int i4), .val (.ref b31), .val (.ref b60), .val (.int 0), .val (.int 1), .val (.int (i3 &&& (255 : Int32))), .unset, .unset, .unset, .unset, .unset]) rfl ?_
            show Steps p.tables e below (T90.setTop (mkF m 159 #[.val (.int i0), .val (.long j1), .second, .val (.int i3), .val (.int i4), .val (.ref b31), .val (.ref b60), .val (.int 0), .val (.int 1), .val (.int (i3 &&& (255 : Int32))), .unset, .unset, .unset, .unset, .unset] [])) _
            refine XS.aload X90.here hx rfl (hb hby at_159) rfl rfl ?_
            refine XS.iload X90.here hx rfl (hb hby at_161) rfl ?_
            refine XS.iload X90.here hx rfl (hb hby at_163) rfl ?_
            show Steps p.tables e below (T90.setTop (mkF m 165 #[.val (.int i0), .val (.long j1), .second, .val (.int i3), .val (.int i4), .val (.ref b31), .val (.ref b60), .val (.int 0), .val (.int 1), .val (.int (i3 &&& (255 : Int32))), .unset, .unset, .unset, .unset, .unset] [(.int (i3 &&& (255 : Int32))), (.int 1), (.ref b31)])) _
            refine st126 _ ?_
            exact kk)
          exact tail93 ⟨(0 : Int32), (.val (.int 1)), (.val (.int (i3 &&& (255 : Int32)))), (116 : Int32), (i3 &&& (255 : Int32)), (110 : Int32), (97 : Int32), (110 : Int32), (116 : Int32), (95 : Int32), (105 : Int32), (100 : Int32), T126, _, X126.more (by decide) (by decide), N126, (by rw [e126]; exact ((Keep.refl h90 [b31]).wr W126 (Or.inl (List.mem_of_getElem? (i := 0) rfl)))), pre128, (by rw [e126]; exact V126), ⟨fun h => absurd rfl h, fun _ => ⟨1, _, by decide, rfl, hc120⟩⟩, (One.val rfl), (One.val rfl), (by unfold Ch; decide), own_chm i3, (by unfold Ch; decide), (by unfold Ch; decide), (by unfold Ch; decide), (by unfold Ch; decide), (by unfold Ch; decide), (by unfold Ch; decide), (by unfold Ch; decide)⟩
      · skip
        have pre129 := pre99
        rw [hk100] at pre129
        have ne130 : b31 ≠ b60 := (Nat.ne_of_lt (Nat.lt_of_lt_of_le V58.lt (Nat.le_of_eq q60.symm)))
        have f131 := (((((((((((V58.ext E60).other W63 ne130).other W66 ne130).other W69 ne130).other W72 ne130).other W75 ne130).other W78 ne130).other W81 ne130).other W84 ne130).other W87 ne130).other W90 ne130)
        obtain ⟨cl132, Ar132, qk132, qs132, qn132, qh132, qg132⟩ := id f131
        have hin132 : ¬ ((2 : Int32) < 0 ∨ cl132.slots.size ≤ ((2 : Int32)).toNatClampNeg) := inb_of qs132 ⟨by decide, by decide⟩
        have hat132 : cl132.slots[((2 : Int32)).toNatClampNeg]? = some (.int 110) := qh132.at hin132 rfl
        have pre133 : ∀ tz_, Steps p.tables e below (T90.setTop (mkF m 149 #[.val (.int i0), .val (.long j1), .second, .val (.int i3), .val (.int i4), .val (.ref b31), .val (.ref b60), .val (.int 1), .val (.int 2), .val (.int (i3 &&& (255 : Int32))), .unset, .unset, .unset, .unset, .unset] [(.int (i3 &&& (255 : Int32))), (.int 110)])) tz_ → Steps p.tables e below (s₁.setTop (entryFrame m #[(.int i0), (.long j1), (.int i3), (.int i4)] maxLocals)) tz_ := fun tz_ kk => pre129 tz_ (by
          show Steps p.tables e below (T90.setTop (mkF m 142 #[.val (.int i0), .val (.long j1), .second, .val (.int i3), .val (.int i4), .val (.ref b31), .val (.ref b60), .val (.int 1), .val (.int 2), .val (.int (i3 &&& (255 : Int32))), .unset, .unset, .unset, .unset, .unset] [])) _
          refine XS.aload X90.here hx rfl (hb hby at_142) rfl rfl ?_
          refine XS.iload X90.here hx rfl (hb hby at_144) rfl ?_
          show Steps p.tables e below (T90.setTop (mkF m 146 #[.val (.int i0), .val (.long j1), .second, .val (.int i3), .val (.int i4), .val (.ref b31), .val (.ref b60), .val (.int 1), .val (.int 2), .val (.int (i3 &&& (255 : Int32))), .unset, .unset, .unset, .unset, .unset] [(.int 2), (.ref b31)])) _
          refine X90.caload hx (j := (2 : Int32)) (v := (.int 110)) (by rw [e90]; exact Ar132.1) (State.isArrayOf_alike hZ.alike Ar132.2.1) Ar132.2.2 hin132 hat132 (g := (mkF m 146 #[.val (.int i0), .val (.long j1), .second, .val (.int i3), .val (.int i4), .val (.ref b31), .val (.ref b60), .val (.int 1), .val (.int 2), .val (.int (i3 &&& (255 : Int32))), .unset, .unset, .unset, .unset, .unset] [(.int 2), (.ref b31)])) rfl rfl (hb hby at_146) _ ?_
          refine XS.iload X90.here hx rfl (hb hby at_147) rfl ?_
          exact kk)
        by_cases hc134 : (110 : Int32) = (i3 &&& (255 : Int32))
        · skip
          obtain ⟨cl135, Ar135, qk135, qs135, qn135, qh135, qg135⟩ := id f131
          have hin135 : ¬ ((2 : Int32) < 0 ∨ cl135.slots.size ≤ ((2 : Int32)).toNatClampNeg) := inb_of qs135 ⟨by decide, by decide⟩
          obtain ⟨T136, h136, X136, e136, W136, st136⟩ := stC X90 hx hZ e90 Ar135 (j := (2 : Int32)) hin135 (g := (mkF m 165 #[.val (.int i0), .val (.long j1), .second, .val (.int i3), .val (.int i4), .val (.ref b31), .val (.ref b60), .val (.int 1), .val (.int 2), .val (.int (i3 &&& (255 : Int32))), .unset, .unset, .unset, .unset, .unset] [(.int (i3 &&& (255 : Int32))), (.int 2), (.ref b31)])) rfl rfl (hb hby at_165)
          have V136 : Arv Z h136 b31 k31 .char (9 : Int32) [(.int 116), (.int 101), (.int ((i3 &&& (255 : Int32)).toUInt32.toUInt16.toUInt32.toInt32)), (.int 97), (.int 110), (.int 116), (.int 95), (.int 105), (.int 100)] (.int 0) := Arv.set Ar135 qk135 qs135 qn135 qh135 qg135 (fits_nar_char _) W136 2 rfl (Nat.le_of_ble_eq_true rfl)
          rw [i2c_mask] at V136
          have N136 := Fr.snoc X136 N90 g_b31
          have K137 := K91.wr W136 (Or.inr sz_b31)
          have O137 := O91.wr W136 g_b31
          have pre138 : ∀ tz_, Steps p.tables e below (T136.setTop (mkF m 166 #[.val (.int i0), .val (.long j1), .second, .val (.int i3), .val (.int i4), .val (.ref b31), .val (.ref b60), .val (.int 1), .val (.int 2), .val (.int (i3 &&& (255 : Int32))), .unset, .unset, .unset, .unset, .unset] [])) tz_ → Steps p.tables e below (s₁.setTop (entryFrame m #[(.int i0), (.long j1), (.int i3), (.int i4)] maxLocals)) tz_ := fun tz_ kk => pre133 tz_ (by
            show Steps p.tables e below (T90.setTop (mkF m 149 #[.val (.int i0), .val (.long j1), .second, .val (.int i3), .val (.int i4), .val (.ref b31), .val (.ref b60), .val (.int 1), .val (.int 2), .val (.int (i3 &&& (255 : Int32))), .unset, .unset, .unset, .unset, .unset] [(.int (i3 &&& (255 : Int32))), (.int 110)])) _
            refine XS.icmpNo X90.here hx rfl (hb hby at_149) rfl (teq hc134).2 ?_
            refine XS.iconst X90.here hx rfl (hb hby at_152) ?_
            refine XS.goto X90.here hx rfl (pc0 := 153) (pc' := 157) rfl (hb hby at_153) (by decide) (by decide) ?_
            refine XS.istore X90.here hx rfl (hb hby at_157) rfl (l' := #[.val (.int i0), .val (.long j1), .second, .val (.int i3), .val (.int i4), .val (.ref b31), .val (.ref b60), .val (.int 1), .val (.int 2), .val (.int (i3 &&& (255 : Int32))), .unset, .unset, .unset, .unset, .unset]) rfl ?_
            show Steps p.tables e below (T90.setTop (mkF m 159 #[.val (.int i0), .val (.long j1), .second, .val (.int i3), .val (.int i4), .val (.ref b31), .val (.ref b60), .val (.int 1), .val (.int 2), .val (.int (i3 &&& (255 : Int32))), .unset, .unset, .unset, .unset, .unset] [])) _
            refine XS.aload X90.here hx rfl (hb hby at_159) rfl rfl ?_
            refine XS.iload X90.here hx rfl (hb hby at_161) rfl ?_
            refine XS.iload X90.here hx rfl (hb hby at_163) rfl ?_
            show Steps p.tables e below (T90.setTop (mkF m 165 #[.val (.int i0), .val (.long j1), .second, .val (.int i3), .val (.int i4), .val (.ref b31), .val (.ref b60), .val (.int 1), .val (.int 2), .val (.int (i3 &&& (255 : Int32))), .unset, .unset, .unset, .unset, .unset] [(.int (i3 &&& (255 : Int32))), (.int 2), (.ref b31)])) _
            refine st136 _ ?_
            exact kk)
          exact tail93 ⟨(1 : Int32), (.val (.int 2)), (.val (.int (i3 &&& (255 : Int32)))), (116 : Int32), (101 : Int32), (i3 &&& (255 : Int32)), (97 : Int32), (110 : Int32), (116 : Int32), (95 : Int32), (105 : Int32), (100 : Int32), T136, _, X136.more (by decide) (by decide), N136, (by rw [e136]; exact ((Keep.refl h90 [b31]).wr W136 (Or.inl (List.mem_of_getElem? (i := 0) rfl)))), pre138, (by rw [e136]; exact V136), ⟨fun _ => by rw [← hc134]; rfl, fun h => absurd h (by decide)⟩, (One.val rfl), (One.val rfl), (by unfold Ch; decide), (by unfold Ch; decide), own_chm i3, (by unfold Ch; decide), (by unfold Ch; decide), (by unfold Ch; decide), (by unfold Ch; decide), (by unfold Ch; decide), (by unfold Ch; decide)⟩
        · skip
          obtain ⟨cl139, Ar139, qk139, qs139, qn139, qh139, qg139⟩ := id f131
          have hin139 : ¬ ((2 : Int32) < 0 ∨ cl139.slots.size ≤ ((2 : Int32)).toNatClampNeg) := inb_of qs139 ⟨by decide, by decide⟩
          obtain ⟨T140, h140, X140, e140, W140, st140⟩ := stC X90 hx hZ e90 Ar139 (j := (2 : Int32)) hin139 (g := (mkF m 165 #[.val (.int i0), .val (.long j1), .second, .val (.int i3), .val (.int i4), .val (.ref b31), .val (.ref b60), .val (.int 0), .val (.int 2), .val (.int (i3 &&& (255 : Int32))), .unset, .unset, .unset, .unset, .unset] [(.int (i3 &&& (255 : Int32))), (.int 2), (.ref b31)])) rfl rfl (hb hby at_165)
          have V140 : Arv Z h140 b31 k31 .char (9 : Int32) [(.int 116), (.int 101), (.int ((i3 &&& (255 : Int32)).toUInt32.toUInt16.toUInt32.toInt32)), (.int 97), (.int 110), (.int 116), (.int 95), (.int 105), (.int 100)] (.int 0) := Arv.set Ar139 qk139 qs139 qn139 qh139 qg139 (fits_nar_char _) W140 2 rfl (Nat.le_of_ble_eq_true rfl)
          rw [i2c_mask] at V140
          have N140 := Fr.snoc X140 N90 g_b31
          have K141 := K91.wr W140 (Or.inr sz_b31)
          have O141 := O91.wr W140 g_b31
          have pre142 : ∀ tz_, Steps p.tables e below (T140.setTop (mkF m 166 #[.val (.int i0), .val (.long j1), .second, .val (.int i3), .val (.int i4), .val (.ref b31), .val (.ref b60), .val (.int 0), .val (.int 2), .val (.int (i3 &&& (255 : Int32))), .unset, .unset, .unset, .unset, .unset] [])) tz_ → Steps p.tables e below (s₁.setTop (entryFrame m #[(.int i0), (.long j1), (.int i3), (.int i4)] maxLocals)) tz_ := fun tz_ kk => pre133 tz_ (by
            show Steps p.tables e below (T90.setTop (mkF m 149 #[.val (.int i0), .val (.long j1), .second, .val (.int i3), .val (.int i4), .val (.ref b31), .val (.ref b60), .val (.int 1), .val (.int 2), .val (.int (i3 &&& (255 : Int32))), .unset, .unset, .unset, .unset, .unset] [(.int (i3 &&& (255 : Int32))), (.int 110)])) _
            refine XS.icmpYes X90.here hx rfl (pc0 := 149) (pc' := 156) rfl (hb hby at_149) rfl (feq hc134).2 (by decide) (by decide) ?_
            show Steps p.tables e below (T90.setTop (mkF m 156 #[.val (.int i0), .val (.long j1), .second, .val (.int i3), .val (.int i4), .val (.ref b31), .val (.ref b60), .val (.int 1), .val (.int 2), .val (.int (i3 &&& (255 : Int32))), .unset, .unset, .unset, .unset, .unset] [])) _
            refine XS.iconst X90.here hx rfl (hb hby at_156) ?_
            refine XS.istore X90.here hx rfl (hb hby at_157) rfl (l' := #[.val (.int i0), .val (.long j1), .second, .val (.int i3), .val (.int i4), .val (.ref b31), .val (.ref b60), .val (.int 0), .val (.int 2), .val (.int (i3 &&& (255 : Int32))), .unset, .unset, .unset, .unset, .unset]) rfl ?_
            refine XS.aload X90.here hx rfl (hb hby at_159) rfl rfl ?_
            refine XS.iload X90.here hx rfl (hb hby at_161) rfl ?_
            show Steps p.tables e below (T90.setTop (mkF m 163 #[.val (.int i0), .val (.long j1), .second, .val (.int i3), .val (.int i4), .val (.ref b31), .val (.ref b60), .val (.int 0), .val (.int 2), .val (.int (i3 &&& (255 : Int32))), .unset, .unset, .unset, .unset, .unset] [(.int 2), (.ref b31)])) _
            refine XS.iload X90.here hx rfl (hb hby at_163) rfl ?_
            show Steps p.tables e below (T90.setTop (mkF m 165 #[.val (.int i0), .val (.long j1), .second, .val (.int i3), .val (.int i4), .val (.ref b31), .val (.ref b60), .val (.int 0), .val (.int 2), .val (.int (i3 &&& (255 : Int32))), .unset, .unset, .unset, .unset, .unset] [(.int (i3 &&& (255 : Int32))), (.int 2), (.ref b31)])) _
            refine st140 _ ?_
            exact kk)
          exact tail93 ⟨(0 : Int32), (.val (.int 2)), (.val (.int (i3 &&& (255 : Int32)))), (116 : Int32), (101 : Int32), (i3 &&& (255 : Int32)), (97 : Int32), (110 : Int32), (116 : Int32), (95 : Int32), (105 : Int32), (100 : Int32), T140, _, X140.more (by decide) (by decide), N140, (by rw [e140]; exact ((Keep.refl h90 [b31]).wr W140 (Or.inl (List.mem_of_getElem? (i := 0) rfl)))), pre142, (by rw [e140]; exact V140), ⟨fun h => absurd rfl h, fun _ => ⟨2, _, by decide, rfl, hc134⟩⟩, (One.val rfl), (One.val rfl), (by unfold Ch; decide), (by unfold Ch; decide), own_chm i3, (by unfold Ch; decide), (by unfold Ch; decide), (by unfold Ch; decide), (by unfold Ch; decide), (by unfold Ch; decide), (by unfold Ch; decide)⟩
      · skip
        have pre143 := pre99
        rw [hk100] at pre143
        have ne144 : b31 ≠ b60 := (Nat.ne_of_lt (Nat.lt_of_lt_of_le V58.lt (Nat.le_of_eq q60.symm)))
        have f145 := (((((((((((V58.ext E60).other W63 ne144).other W66 ne144).other W69 ne144).other W72 ne144).other W75 ne144).other W78 ne144).other W81 ne144).other W84 ne144).other W87 ne144).other W90 ne144)
        obtain ⟨cl146, Ar146, qk146, qs146, qn146, qh146, qg146⟩ := id f145
        have hin146 : ¬ ((3 : Int32) < 0 ∨ cl146.slots.size ≤ ((3 : Int32)).toNatClampNeg) := inb_of qs146 ⟨by decide, by decide⟩
        have hat146 : cl146.slots[((3 : Int32)).toNatClampNeg]? = some (.int 97) := qh146.at hin146 rfl
        have pre147 : ∀ tz_, Steps p.tables e below (T90.setTop (mkF m 149 #[.val (.int i0), .val (.long j1), .second, .val (.int i3), .val (.int i4), .val (.ref b31), .val (.ref b60), .val (.int 1), .val (.int 3), .val (.int (i3 &&& (255 : Int32))), .unset, .unset, .unset, .unset, .unset] [(.int (i3 &&& (255 : Int32))), (.int 97)])) tz_ → Steps p.tables e below (s₁.setTop (entryFrame m #[(.int i0), (.long j1), (.int i3), (.int i4)] maxLocals)) tz_ := fun tz_ kk => pre143 tz_ (by
          show Steps p.tables e below (T90.setTop (mkF m 142 #[.val (.int i0), .val (.long j1), .second, .val (.int i3), .val (.int i4), .val (.ref b31), .val (.ref b60), .val (.int 1), .val (.int 3), .val (.int (i3 &&& (255 : Int32))), .unset, .unset, .unset, .unset, .unset] [])) _
          refine XS.aload X90.here hx rfl (hb hby at_142) rfl rfl ?_
          refine XS.iload X90.here hx rfl (hb hby at_144) rfl ?_
          show Steps p.tables e below (T90.setTop (mkF m 146 #[.val (.int i0), .val (.long j1), .second, .val (.int i3), .val (.int i4), .val (.ref b31), .val (.ref b60), .val (.int 1), .val (.int 3), .val (.int (i3 &&& (255 : Int32))), .unset, .unset, .unset, .unset, .unset] [(.int 3), (.ref b31)])) _
          refine X90.caload hx (j := (3 : Int32)) (v := (.int 97)) (by rw [e90]; exact Ar146.1) (State.isArrayOf_alike hZ.alike Ar146.2.1) Ar146.2.2 hin146 hat146 (g := (mkF m 146 #[.val (.int i0), .val (.long j1), .second, .val (.int i3), .val (.int i4), .val (.ref b31), .val (.ref b60), .val (.int 1), .val (.int 3), .val (.int (i3 &&& (255 : Int32))), .unset, .unset, .unset, .unset, .unset] [(.int 3), (.ref b31)])) rfl rfl (hb hby at_146) _ ?_
          refine XS.iload X90.here hx rfl (hb hby at_147) rfl ?_
          exact kk)
        by_cases hc148 : (97 : Int32) = (i3 &&& (255 : Int32))
        · skip
          obtain ⟨cl149, Ar149, qk149, qs149, qn149, qh149, qg149⟩ := id f145
          have hin149 : ¬ ((3 : Int32) < 0 ∨ cl149.slots.size ≤ ((3 : Int32)).toNatClampNeg) := inb_of qs149 ⟨by decide, by decide⟩
          obtain ⟨T150, h150, X150, e150, W150, st150⟩ := stC X90 hx hZ e90 Ar149 (j := (3 : Int32)) hin149 (g := (mkF m 165 #[.val (.int i0), .val (.long j1), .second, .val (.int i3), .val (.int i4), .val (.ref b31), .val (.ref b60), .val (.int 1), .val (.int 3), .val (.int (i3 &&& (255 : Int32))), .unset, .unset, .unset, .unset, .unset] [(.int (i3 &&& (255 : Int32))), (.int 3), (.ref b31)])) rfl rfl (hb hby at_165)
          have V150 : Arv Z h150 b31 k31 .char (9 : Int32) [(.int 116), (.int 101), (.int 110), (.int ((i3 &&& (255 : Int32)).toUInt32.toUInt16.toUInt32.toInt32)), (.int 110), (.int 116), (.int 95), (.int 105), (.int 100)] (.int 0) := Arv.set Ar149 qk149 qs149 qn149 qh149 qg149 (fits_nar_char _) W150 3 rfl (Nat.le_of_ble_eq_true rfl)
          rw [i2c_mask] at V150
          have N150 := Fr.snoc X150 N90 g_b31
          have K151 := K91.wr W150 (Or.inr sz_b31)
          have O151 := O91.wr W150 g_b31
          have pre152 : ∀ tz_, Steps p.tables e below (T150.setTop (mkF m 166 #[.val (.int i0), .val (.long j1), .second, .val (.int i3), .val (.int i4), .val (.ref b31), .val (.ref b60), .val (.int 1), .val (.int 3), .val (.int (i3 &&& (255 : Int32))), .unset, .unset, .unset, .unset, .unset] [])) tz_ → Steps p.tables e below (s₁.setTop (entryFrame m #[(.int i0), (.long j1), (.int i3), (.int i4)] maxLocals)) tz_ := fun tz_ kk => pre147 tz_ (by
            show Steps p.tables e below (T90.setTop (mkF m 149 #[.val (.int i0), .val (.long j1), .second, .val (.int i3), .val (.int i4), .val (.ref b31), .val (.ref b60), .val (.int 1), .val (.int 3), .val (.int (i3 &&& (255 : Int32))), .unset, .unset, .unset, .unset, .unset] [(.int (i3 &&& (255 : Int32))), (.int 97)])) _
            refine XS.icmpNo X90.here hx rfl (hb hby at_149) rfl (teq hc148).2 ?_
            refine XS.iconst X90.here hx rfl (hb hby at_152) ?_
            show Steps p.tables e below (T90.setTop (mkF m 153 #[.val (.int i0), .val (.long j1), .second, .val (.int i3), .val (.int i4), .val (.ref b31), .val (.ref b60), .val (.int 1), .val (.int 3), .val (.int (i3 &&& (255 : Int32))), .unset, .unset, .unset, .unset, .unset] [(.int 1)])) _
            refine XS.goto X90.here hx rfl (pc0 := 153) (pc' := 157) rfl (hb hby at_153) (by decide) (by decide) ?_
            refine XS.istore X90.here hx rfl (hb hby at_157) rfl (l' := #[.val (.int i0), .val (.long j1), .second, .val (.int i3), .val (.int i4), .val (.ref b31), .val (.ref b60), .val (.int 1), .val (.int 3), .val (.int (i3 &&& (255 : Int32))), .unset, .unset, .unset, .unset, .unset]) rfl ?_
            refine XS.aload X90.here hx rfl (hb hby at_159) rfl rfl ?_
            refine XS.iload X90.here hx rfl (hb hby at_161) rfl ?_
            show Steps p.tables e below (T90.setTop (mkF m 163 #[.val (.int i0), .val (.long j1), .second, .val (.int i3), .val (.int i4), .val (.ref b31), .val (.ref b60), .val (.int 1), .val (.int 3), .val (.int (i3 &&& (255 : Int32))), .unset, .unset, .unset, .unset, .unset] [(.int 3), (.ref b31)])) _
            refine XS.iload X90.here hx rfl (hb hby at_163) rfl ?_
            show Steps p.tables e below (T90.setTop (mkF m 165 #[.val (.int i0), .val (.long j1), .second, .val (.int i3), .val (.int i4), .val (.ref b31), .val (.ref b60), .val (.int 1), .val (.int 3), .val (.int (i3 &&& (255 : Int32))), .unset, .unset, .unset, .unset, .unset] [(.int (i3 &&& (255 : Int32))), (.int 3), (.ref b31)])) _
            refine st150 _ ?_
            exact kk)
          exact tail93 ⟨(1 : Int32), (.val (.int 3)), (.val (.int (i3 &&& (255 : Int32)))), (116 : Int32), (101 : Int32), (110 : Int32), (i3 &&& (255 : Int32)), (110 : Int32), (116 : Int32), (95 : Int32), (105 : Int32), (100 : Int32), T150, _, X150.more (by decide) (by decide), N150, (by rw [e150]; exact ((Keep.refl h90 [b31]).wr W150 (Or.inl (List.mem_of_getElem? (i := 0) rfl)))), pre152, (by rw [e150]; exact V150), ⟨fun _ => by rw [← hc148]; rfl, fun h => absurd h (by decide)⟩, (One.val rfl), (One.val rfl), (by unfold Ch; decide), (by unfold Ch; decide), (by unfold Ch; decide), own_chm i3, (by unfold Ch; decide), (by unfold Ch; decide), (by unfold Ch; decide), (by unfold Ch; decide), (by unfold Ch; decide)⟩
        · skip
          obtain ⟨cl153, Ar153, qk153, qs153, qn153, qh153, qg153⟩ := id f145
          have hin153 : ¬ ((3 : Int32) < 0 ∨ cl153.slots.size ≤ ((3 : Int32)).toNatClampNeg) := inb_of qs153 ⟨by decide, by decide⟩
          obtain ⟨T154, h154, X154, e154, W154, st154⟩ := stC X90 hx hZ e90 Ar153 (j := (3 : Int32)) hin153 (g := (mkF m 165 #[.val (.int i0), .val (.long j1), .second, .val (.int i3), .val (.int i4), .val (.ref b31), .val (.ref b60), .val (.int 0), .val (.int 3), .val (.int (i3 &&& (255 : Int32))), .unset, .unset, .unset, .unset, .unset] [(.int (i3 &&& (255 : Int32))), (.int 3), (.ref b31)])) rfl rfl (hb hby at_165)
          have V154 : Arv Z h154 b31 k31 .char (9 : Int32) [(.int 116), (.int 101), (.int 110), (.int ((i3 &&& (255 : Int32)).toUInt32.toUInt16.toUInt32.toInt32)), (.int 110), (.int 116), (.int 95), (.int 105), (.int 100)] (.int 0) := Arv.set Ar153 qk153 qs153 qn153 qh153 qg153 (fits_nar_char _) W154 3 rfl (Nat.le_of_ble_eq_true rfl)
          rw [i2c_mask] at V154
          have N154 := Fr.snoc X154 N90 g_b31
          have K155 := K91.wr W154 (Or.inr sz_b31)
          have O155 := O91.wr W154 g_b31
          have pre156 : ∀ tz_, Steps p.tables e below (T154.setTop (mkF m 166 #[.val (.int i0), .val (.long j1), .second, .val (.int i3), .val (.int i4), .val (.ref b31), .val (.ref b60), .val (.int 0), .val (.int 3), .val (.int (i3 &&& (255 : Int32))), .unset, .unset, .unset, .unset, .unset] [])) tz_ → Steps p.tables e below (s₁.setTop (entryFrame m #[(.int i0), (.long j1), (.int i3), (.int i4)] maxLocals)) tz_ := fun tz_ kk => pre147 tz_ (by
            show Steps p.tables e below (T90.setTop (mkF m 149 #[.val (.int i0), .val (.long j1), .second, .val (.int i3), .val (.int i4), .val (.ref b31), .val (.ref b60), .val (.int 1), .val (.int 3), .val (.int (i3 &&& (255 : Int32))), .unset, .unset, .unset, .unset, .unset] [(.int (i3 &&& (255 : Int32))), (.int 97)])) _
            refine XS.icmpYes X90.here hx rfl (pc0 := 149) (pc' := 156) rfl (hb hby at_149) rfl (feq hc148).2 (by decide) (by decide) ?_
            refine XS.iconst X90.here hx rfl (hb hby at_156) ?_
            refine XS.istore X90.here hx rfl (hb hby at_157) rfl (l' := #[.val (.int i0), .val (.long j1), .second, .val (.int i3), .val (.int i4), .val (.ref b31), .val (.ref b60), .val (.int 0), .val (.int 3), .val (.int (i3 &&& (255 : Int32))), .unset, .unset, .unset, .unset, .unset]) rfl ?_
            show Steps p.tables e below (T90.setTop (mkF m 159 #[.val (.int i0), .val (.long j1), .second, .val (.int i3), .val (.int i4), .val (.ref b31), .val (.ref b60), .val (.int 0), .val (.int 3), .val (.int (i3 &&& (255 : Int32))), .unset, .unset, .unset, .unset, .unset] [])) _
            refine XS.aload X90.here hx rfl (hb hby at_159) rfl rfl ?_
            refine XS.iload X90.here hx rfl (hb hby at_161) rfl ?_
            refine XS.iload X90.here hx rfl (hb hby at_163) rfl ?_
            show Steps p.tables e below (T90.setTop (mkF m 165 #[.val (.int i0), .val (.long j1), .second, .val (.int i3), .val (.int i4), .val (.ref b31), .val (.ref b60), .val (.int 0), .val (.int 3), .val (.int (i3 &&& (255 : Int32))), .unset, .unset, .unset, .unset, .unset] [(.int (i3 &&& (255 : Int32))), (.int 3), (.ref b31)])) _
            refine st154 _ ?_
            exact kk)
          exact tail93 ⟨(0 : Int32), (.val (.int 3)), (.val (.int (i3 &&& (255 : Int32)))), (116 : Int32), (101 : Int32), (110 : Int32), (i3 &&& (255 : Int32)), (110 : Int32), (116 : Int32), (95 : Int32), (105 : Int32), (100 : Int32), T154, _, X154.more (by decide) (by decide), N154, (by rw [e154]; exact ((Keep.refl h90 [b31]).wr W154 (Or.inl (List.mem_of_getElem? (i := 0) rfl)))), pre156, (by rw [e154]; exact V154), ⟨fun h => absurd rfl h, fun _ => ⟨3, _, by decide, rfl, hc148⟩⟩, (One.val rfl), (One.val rfl), (by unfold Ch; decide), (by unfold Ch; decide), (by unfold Ch; decide), own_chm i3, (by unfold Ch; decide), (by unfold Ch; decide), (by unfold Ch; decide), (by unfold Ch; decide), (by unfold Ch; decide)⟩
      · skip
        have pre157 := pre99
        rw [hk100] at pre157
        have ne158 : b31 ≠ b60 := (Nat.ne_of_lt (Nat.lt_of_lt_of_le V58.lt (Nat.le_of_eq q60.symm)))
        have f159 := (((((((((((V58.ext E60).other W63 ne158).other W66 ne158).other W69 ne158).other W72 ne158).other W75 ne158).other W78 ne158).other W81 ne158).other W84 ne158).other W87 ne158).other W90 ne158)
        obtain ⟨cl160, Ar160, qk160, qs160, qn160, qh160, qg160⟩ := id f159
        have hin160 : ¬ ((4 : Int32) < 0 ∨ cl160.slots.size ≤ ((4 : Int32)).toNatClampNeg) := inb_of qs160 ⟨by decide, by decide⟩
        have hat160 : cl160.slots[((4 : Int32)).toNatClampNeg]? = some (.int 110) := qh160.at hin160 rfl
        have pre161 : ∀ tz_, Steps p.tables e below (T90.setTop (mkF m 149 #[.val (.int i0), .val (.long j1), .second, .val (.int i3), .val (.int i4), .val (.ref b31), .val (.ref b60), .val (.int 1), .val (.int 4), .val (.int (i3 &&& (255 : Int32))), .unset, .unset, .unset, .unset, .unset] [(.int (i3 &&& (255 : Int32))), (.int 110)])) tz_ → Steps p.tables e below (s₁.setTop (entryFrame m #[(.int i0), (.long j1), (.int i3), (.int i4)] maxLocals)) tz_ := fun tz_ kk => pre157 tz_ (by
          show Steps p.tables e below (T90.setTop (mkF m 142 #[.val (.int i0), .val (.long j1), .second, .val (.int i3), .val (.int i4), .val (.ref b31), .val (.ref b60), .val (.int 1), .val (.int 4), .val (.int (i3 &&& (255 : Int32))), .unset, .unset, .unset, .unset, .unset] [])) _
          refine XS.aload X90.here hx rfl (hb hby at_142) rfl rfl ?_
          refine XS.iload X90.here hx rfl (hb hby at_144) rfl ?_
          show Steps p.tables e below (T90.setTop (mkF m 146 #[.val (.int i0), .val (.long j1), .second, .val (.int i3), .val (.int i4), .val (.ref b31), .val (.ref b60), .val (.int 1), .val (.int 4), .val (.int (i3 &&& (255 : Int32))), .unset, .unset, .unset, .unset, .unset] [(.int 4), (.ref b31)])) _
          refine X90.caload hx (j := (4 : Int32)) (v := (.int 110)) (by rw [e90]; exact Ar160.1) (State.isArrayOf_alike hZ.alike Ar160.2.1) Ar160.2.2 hin160 hat160 (g := (mkF m 146 #[.val (.int i0), .val (.long j1), .second, .val (.int i3), .val (.int i4), .val (.ref b31), .val (.ref b60), .val (.int 1), .val (.int 4), .val (.int (i3 &&& (255 : Int32))), .unset, .unset, .unset, .unset, .unset] [(.int 4), (.ref b31)])) rfl rfl (hb hby at_146) _ ?_
          refine XS.iload X90.here hx rfl (hb hby at_147) rfl ?_
          exact kk)
        by_cases hc162 : (110 : Int32) = (i3 &&& (255 : Int32))
        · skip
          obtain ⟨cl163, Ar163, qk163, qs163, qn163, qh163, qg163⟩ := id f159
          have hin163 : ¬ ((4 : Int32) < 0 ∨ cl163.slots.size ≤ ((4 : Int32)).toNatClampNeg) := inb_of qs163 ⟨by decide, by decide⟩
          obtain ⟨T164, h164, X164, e164, W164, st164⟩ := stC X90 hx hZ e90 Ar163 (j := (4 : Int32)) hin163 (g := (mkF m 165 #[.val (.int i0), .val (.long j1), .second, .val (.int i3), .val (.int i4), .val (.ref b31), .val (.ref b60), .val (.int 1), .val (.int 4), .val (.int (i3 &&& (255 : Int32))), .unset, .unset, .unset, .unset, .unset] [(.int (i3 &&& (255 : Int32))), (.int 4), (.ref b31)])) rfl rfl (hb hby at_165)
          have V164 : Arv Z h164 b31 k31 .char (9 : Int32) [(.int 116), (.int 101), (.int 110), (.int 97), (.int ((i3 &&& (255 : Int32)).toUInt32.toUInt16.toUInt32.toInt32)), (.int 116), (.int 95), (.int 105), (.int 100)] (.int 0) := Arv.set Ar163 qk163 qs163 qn163 qh163 qg163 (fits_nar_char _) W164 4 rfl (Nat.le_of_ble_eq_true rfl)
          rw [i2c_mask] at V164
          have N164 := Fr.snoc X164 N90 g_b31
          have K165 := K91.wr W164 (Or.inr sz_b31)
          have O165 := O91.wr W164 g_b31
          have pre166 : ∀ tz_, Steps p.tables e below (T164.setTop (mkF m 166 #[.val (.int i0), .val (.long j1), .second, .val (.int i3), .val (.int i4), .val (.ref b31), .val (.ref b60), .val (.int 1), .val (.int 4), .val (.int (i3 &&& (255 : Int32))), .unset, .unset, .unset, .unset, .unset] [])) tz_ → Steps p.tables e below (s₁.setTop (entryFrame m #[(.int i0), (.long j1), (.int i3), (.int i4)] maxLocals)) tz_ := fun tz_ kk => pre161 tz_ (by
            show Steps p.tables e below (T90.setTop (mkF m 149 #[.val (.int i0), .val (.long j1), .second, .val (.int i3), .val (.int i4), .val (.ref b31), .val (.ref b60), .val (.int 1), .val (.int 4), .val (.int (i3 &&& (255 : Int32))), .unset, .unset, .unset, .unset, .unset] [(.int (i3 &&& (255 : Int32))), (.int 110)])) _
            refine XS.icmpNo X90.here hx rfl (hb hby at_149) rfl (teq hc162).2 ?_
            refine XS.iconst X90.here hx rfl (hb hby at_152) ?_
            refine XS.goto X90.here hx rfl (pc0 := 153) (pc' := 157) rfl (hb hby at_153) (by decide) (by decide) ?_
            refine XS.istore X90.here hx rfl (hb hby at_157) rfl (l' := #[.val (.int i0), .val (.long j1), .second, .val (.int i3), .val (.int i4), .val (.ref b31), .val (.ref b60), .val (.int 1), .val (.int 4), .val (.int (i3 &&& (255 : Int32))), .unset, .unset, .unset, .unset, .unset]) rfl ?_
            show Steps p.tables e below (T90.setTop (mkF m 159 #[.val (.int i0), .val (.long j1), .second, .val (.int i3), .val (.int i4), .val (.ref b31), .val (.ref b60), .val (.int 1), .val (.int 4), .val (.int (i3 &&& (255 : Int32))), .unset, .unset, .unset, .unset, .unset] [])) _
            refine XS.aload X90.here hx rfl (hb hby at_159) rfl rfl ?_
            refine XS.iload X90.here hx rfl (hb hby at_161) rfl ?_
            refine XS.iload X90.here hx rfl (hb hby at_163) rfl ?_
            show Steps p.tables e below (T90.setTop (mkF m 165 #[.val (.int i0), .val (.long j1), .second, .val (.int i3), .val (.int i4), .val (.ref b31), .val (.ref b60), .val (.int 1), .val (.int 4), .val (.int (i3 &&& (255 : Int32))), .unset, .unset, .unset, .unset, .unset] [(.int (i3 &&& (255 : Int32))), (.int 4), (.ref b31)])) _
            refine st164 _ ?_
            exact kk)
          exact tail93 ⟨(1 : Int32), (.val (.int 4)), (.val (.int (i3 &&& (255 : Int32)))), (116 : Int32), (101 : Int32), (110 : Int32), (97 : Int32), (i3 &&& (255 : Int32)), (116 : Int32), (95 : Int32), (105 : Int32), (100 : Int32), T164, _, X164.more (by decide) (by decide), N164, (by rw [e164]; exact ((Keep.refl h90 [b31]).wr W164 (Or.inl (List.mem_of_getElem? (i := 0) rfl)))), pre166, (by rw [e164]; exact V164), ⟨fun _ => by rw [← hc162]; rfl, fun h => absurd h (by decide)⟩, (One.val rfl), (One.val rfl), (by unfold Ch; decide), (by unfold Ch; decide), (by unfold Ch; decide), (by unfold Ch; decide), own_chm i3, (by unfold Ch; decide), (by unfold Ch; decide), (by unfold Ch; decide), (by unfold Ch; decide)⟩
        · skip
          obtain ⟨cl167, Ar167, qk167, qs167, qn167, qh167, qg167⟩ := id f159
          have hin167 : ¬ ((4 : Int32) < 0 ∨ cl167.slots.size ≤ ((4 : Int32)).toNatClampNeg) := inb_of qs167 ⟨by decide, by decide⟩
          obtain ⟨T168, h168, X168, e168, W168, st168⟩ := stC X90 hx hZ e90 Ar167 (j := (4 : Int32)) hin167 (g := (mkF m 165 #[.val (.int i0), .val (.long j1), .second, .val (.int i3), .val (.int i4), .val (.ref b31), .val (.ref b60), .val (.int 0), .val (.int 4), .val (.int (i3 &&& (255 : Int32))), .unset, .unset, .unset, .unset, .unset] [(.int (i3 &&& (255 : Int32))), (.int 4), (.ref b31)])) rfl rfl (hb hby at_165)
          have V168 : Arv Z h168 b31 k31 .char (9 : Int32) [(.int 116), (.int 101), (.int 110), (.int 97), (.int ((i3 &&& (255 : Int32)).toUInt32.toUInt16.toUInt32.toInt32)), (.int 116), (.int 95), (.int 105), (.int 100)] (.int 0) := Arv.set Ar167 qk167 qs167 qn167 qh167 qg167 (fits_nar_char _) W168 4 rfl (Nat.le_of_ble_eq_true rfl)
          rw [i2c_mask] at V168
          have N168 := Fr.snoc X168 N90 g_b31
          have K169 := K91.wr W168 (Or.inr sz_b31)
          have O169 := O91.wr W168 g_b31
          have pre170 : ∀ tz_, Steps p.tables e below (T168.setTop (mkF m 166 #[.val (.int i0), .val (.long j1), .second, .val (.int i3), .val (.int i4), .val (.ref b31), .val (.ref b60), .val (.int 0), .val (.int 4), .val (.int (i3 &&& (255 : Int32))), .unset, .unset, .unset, .unset, .unset] [])) tz_ → Steps p.tables e below (s₁.setTop (entryFrame m #[(.int i0), (.long j1), (.int i3), (.int i4)] maxLocals)) tz_ := fun tz_ kk => pre161 tz_ (by
            show Steps p.tables e below (T90.setTop (mkF m 149 #[.val (.int i0), .val (.long j1), .second, .val (.int i3), .val (.int i4), .val (.ref b31), .val (.ref b60), .val (.int 1), .val (.int 4), .val (.int (i3 &&& (255 : Int32))), .unset, .unset, .unset, .unset, .unset] [(.int (i3 &&& (255 : Int32))), (.int 110)])) _
            refine XS.icmpYes X90.here hx rfl (pc0 := 149) (pc' := 156) rfl (hb hby at_149) rfl (feq hc162).2 (by decide) (by decide) ?_
            show Steps p.tables e below (T90.setTop (mkF m 156 #[.val (.int i0), .val (.long j1), .second, .val (.int i3), .val (.int i4), .val (.ref b31), .val (.ref b60), .val (.int 1), .val (.int 4), .val (.int (i3 &&& (255 : Int32))), .unset, .unset, .unset, .unset, .unset] [])) _
            refine XS.iconst X90.here hx rfl (hb hby at_156) ?_
            refine XS.istore X90.here hx rfl (hb hby at_157) rfl (l' := #[.val (.int i0), .val (.long j1), .second, .val (.int i3), .val (.int i4), .val (.ref b31), .val (.ref b60), .val (.int 0), .val (.int 4), .val (.int (i3 &&& (255 : Int32))), .unset, .unset, .unset, .unset, .unset]) rfl ?_
            refine XS.aload X90.here hx rfl (hb hby at_159) rfl rfl ?_
            refine XS.iload X90.here hx rfl (hb hby at_161) rfl ?_
            show Steps p.tables e below (T90.setTop (mkF m 163 #[.val (.int i0), .val (.long j1), .second, .val (.int i3), .val (.int i4), .val (.ref b31), .val (.ref b60), .val (.int 0), .val (.int 4), .val (.int (i3 &&& (255 : Int32))), .unset, .unset, .unset, .unset, .unset] [(.int 4), (.ref b31)])) _
            refine XS.iload X90.here hx rfl (hb hby at_163) rfl ?_
            show Steps p.tables e below (T90.setTop (mkF m 165 #[.val (.int i0), .val (.long j1), .second, .val (.int i3), .val (.int i4), .val (.ref b31), .val (.ref b60), .val (.int 0), .val (.int 4), .val (.int (i3 &&& (255 : Int32))), .unset, .unset, .unset, .unset, .unset] [(.int (i3 &&& (255 : Int32))), (.int 4), (.ref b31)])) _
            refine st168 _ ?_
            exact kk)
          exact tail93 ⟨(0 : Int32), (.val (.int 4)), (.val (.int (i3 &&& (255 : Int32)))), (116 : Int32), (101 : Int32), (110 : Int32), (97 : Int32), (i3 &&& (255 : Int32)), (116 : Int32), (95 : Int32), (105 : Int32), (100 : Int32), T168, _, X168.more (by decide) (by decide), N168, (by rw [e168]; exact ((Keep.refl h90 [b31]).wr W168 (Or.inl (List.mem_of_getElem? (i := 0) rfl)))), pre170, (by rw [e168]; exact V168), ⟨fun h => absurd rfl h, fun _ => ⟨4, _, by decide, rfl, hc162⟩⟩, (One.val rfl), (One.val rfl), (by unfold Ch; decide), (by unfold Ch; decide), (by unfold Ch; decide), (by unfold Ch; decide), own_chm i3, (by unfold Ch; decide), (by unfold Ch; decide), (by unfold Ch; decide), (by unfold Ch; decide)⟩
      · skip
        have pre171 := pre99
        rw [hk100] at pre171
        have ne172 : b31 ≠ b60 := (Nat.ne_of_lt (Nat.lt_of_lt_of_le V58.lt (Nat.le_of_eq q60.symm)))
        have f173 := (((((((((((V58.ext E60).other W63 ne172).other W66 ne172).other W69 ne172).other W72 ne172).other W75 ne172).other W78 ne172).other W81 ne172).other W84 ne172).other W87 ne172).other W90 ne172)
        obtain ⟨cl174, Ar174, qk174, qs174, qn174, qh174, qg174⟩ := id f173
        have hin174 : ¬ ((5 : Int32) < 0 ∨ cl174.slots.size ≤ ((5 : Int32)).toNatClampNeg) := inb_of qs174 ⟨by decide, by decide⟩
        have hat174 : cl174.slots[((5 : Int32)).toNatClampNeg]? = some (.int 116) := qh174.at hin174 rfl
        have pre175 : ∀ tz_, Steps p.tables e below (T90.setTop (mkF m 149 #[.val (.int i0), .val (.long j1), .second, .val (.int i3), .val (.int i4), .val (.ref b31), .val (.ref b60), .val (.int 1), .val (.int 5), .val (.int (i3 &&& (255 : Int32))), .unset, .unset, .unset, .unset, .unset] [(.int (i3 &&& (255 : Int32))), (.int 116)])) tz_ → Steps p.tables e below (s₁.setTop (entryFrame m #[(.int i0), (.long j1), (.int i3), (.int i4)] maxLocals)) tz_ := fun tz_ kk => pre171 tz_ (by
          show Steps p.tables e below (T90.setTop (mkF m 142 #[.val (.int i0), .val (.long j1), .second, .val (.int i3), .val (.int i4), .val (.ref b31), .val (.ref b60), .val (.int 1), .val (.int 5), .val (.int (i3 &&& (255 : Int32))), .unset, .unset, .unset, .unset, .unset] [])) _
          refine XS.aload X90.here hx rfl (hb hby at_142) rfl rfl ?_
          refine XS.iload X90.here hx rfl (hb hby at_144) rfl ?_
          show Steps p.tables e below (T90.setTop (mkF m 146 #[.val (.int i0), .val (.long j1), .second, .val (.int i3), .val (.int i4), .val (.ref b31), .val (.ref b60), .val (.int 1), .val (.int 5), .val (.int (i3 &&& (255 : Int32))), .unset, .unset, .unset, .unset, .unset] [(.int 5), (.ref b31)])) _
          refine X90.caload hx (j := (5 : Int32)) (v := (.int 116)) (by rw [e90]; exact Ar174.1) (State.isArrayOf_alike hZ.alike Ar174.2.1) Ar174.2.2 hin174 hat174 (g := (mkF m 146 #[.val (.int i0), .val (.long j1), .second, .val (.int i3), .val (.int i4), .val (.ref b31), .val (.ref b60), .val (.int 1), .val (.int 5), .val (.int (i3 &&& (255 : Int32))), .unset, .unset, .unset, .unset, .unset] [(.int 5), (.ref b31)])) rfl rfl (hb hby at_146) _ ?_
          refine XS.iload X90.here hx rfl (hb hby at_147) rfl ?_
          exact kk)
        by_cases hc176 : (116 : Int32) = (i3 &&& (255 : Int32))
        · skip
          obtain ⟨cl177, Ar177, qk177, qs177, qn177, qh177, qg177⟩ := id f173
          have hin177 : ¬ ((5 : Int32) < 0 ∨ cl177.slots.size ≤ ((5 : Int32)).toNatClampNeg) := inb_of qs177 ⟨by decide, by decide⟩
          obtain ⟨T178, h178, X178, e178, W178, st178⟩ := stC X90 hx hZ e90 Ar177 (j := (5 : Int32)) hin177 (g := (mkF m 165 #[.val (.int i0), .val (.long j1), .second, .val (.int i3), .val (.int i4), .val (.ref b31), .val (.ref b60), .val (.int 1), .val (.int 5), .val (.int (i3 &&& (255 : Int32))), .unset, .unset, .unset, .unset, .unset] [(.int (i3 &&& (255 : Int32))), (.int 5), (.ref b31)])) rfl rfl (hb hby at_165)
          have V178 : Arv Z h178 b31 k31 .char (9 : Int32) [(.int 116), (.int 101), (.int 110), (.int 97), (.int 110), (.int ((i3 &&& (255 : Int32)).toUInt32.toUInt16.toUInt32.toInt32)), (.int 95), (.int 105), (.int 100)] (.int 0) := Arv.set Ar177 qk177 qs177 qn177 qh177 qg177 (fits_nar_char _) W178 5 rfl (Nat.le_of_ble_eq_true rfl)
          rw [i2c_mask] at V178
          have N178 := Fr.snoc X178 N90 g_b31
          have K179 := K91.wr W178 (Or.inr sz_b31)
          have O179 := O91.wr W178 g_b31
          have pre180 : ∀ tz_, Steps p.tables e below (T178.setTop (mkF m 166 #[.val (.int i0), .val (.long j1), .second, .val (.int i3), .val (.int i4), .val (.ref b31), .val (.ref b60), .val (.int 1), .val (.int 5), .val (.int (i3 &&& (255 : Int32))), .unset, .unset, .unset, .unset, .unset] [])) tz_ → Steps p.tables e below (s₁.setTop (entryFrame m #[(.int i0), (.long j1), (.int i3), (.int i4)] maxLocals)) tz_ := fun tz_ kk => pre175 tz_ (by
            show Steps p.tables e below (T90.setTop (mkF m 149 #[.val (.int i0), .val (.long j1), .second, .val (.int i3), .val (.int i4), .val (.ref b31), .val (.ref b60), .val (.int 1), .val (.int 5), .val (.int (i3 &&& (255 : Int32))), .unset, .unset, .unset, .unset, .unset] [(.int (i3 &&& (255 : Int32))), (.int 116)])) _
            refine XS.icmpNo X90.here hx rfl (hb hby at_149) rfl (teq hc176).2 ?_
            refine XS.iconst X90.here hx rfl (hb hby at_152) ?_
            show Steps p.tables e below (T90.setTop (mkF m 153 #[.val (.int i0), .val (.long j1), .second, .val (.int i3), .val (.int i4), .val (.ref b31), .val (.ref b60), .val (.int 1), .val (.int 5), .val (.int (i3 &&& (255 : Int32))), .unset, .unset, .unset, .unset, .unset] [(.int 1)])) _
            refine XS.goto X90.here hx rfl (pc0 := 153) (pc' := 157) rfl (hb hby at_153) (by decide) (by decide) ?_
            refine XS.istore X90.here hx rfl (hb hby at_157) rfl (l' := #[.val (.int i0), .val (.long j1), .second, .val (.int i3), .val (.int i4), .val (.ref b31), .val (.ref b60), .val (.int 1), .val (.int 5), .val (.int (i3 &&& (255 : Int32))), .unset, .unset, .unset, .unset, .unset]) rfl ?_
            refine XS.aload X90.here hx rfl (hb hby at_159) rfl rfl ?_
            refine XS.iload X90.here hx rfl (hb hby at_161) rfl ?_
            show Steps p.tables e below (T90.setTop (mkF m 163 #[.val (.int i0), .val (.long j1), .second, .val (.int i3), .val (.int i4), .val (.ref b31), .val (.ref b60), .val (.int 1), .val (.int 5), .val (.int (i3 &&& (255 : Int32))), .unset, .unset, .unset, .unset, .unset] [(.int 5), (.ref b31)])) _
            refine XS.iload X90.here hx rfl (hb hby at_163) rfl ?_
            show Steps p.tables e below (T90.setTop (mkF m 165 #[.val (.int i0), .val (.long j1), .second, .val (.int i3), .val (.int i4), .val (.ref b31), .val (.ref b60), .val (.int 1), .val (.int 5), .val (.int (i3 &&& (255 : Int32))), .unset, .unset, .unset, .unset, .unset] [(.int (i3 &&& (255 : Int32))), (.int 5), (.ref b31)])) _
            refine st178 _ ?_
            exact kk)
          exact tail93 ⟨(1 : Int32), (.val (.int 5)), (.val (.int (i3 &&& (255 : Int32)))), (116 : Int32), (101 : Int32), (110 : Int32), (97 : Int32), (110 : Int32), (i3 &&& (255 : Int32)), (95 : Int32), (105 : Int32), (100 : Int32), T178, _, X178.more (by decide) (by decide), N178, (by rw [e178]; exact ((Keep.refl h90 [b31]).wr W178 (Or.inl (List.mem_of_getElem? (i := 0) rfl)))), pre180, (by rw [e178]; exact V178), ⟨fun _ => by rw [← hc176]; rfl, fun h => absurd h (by decide)⟩, (One.val rfl), (One.val rfl), (by unfold Ch; decide), (by unfold Ch; decide), (by unfold Ch; decide), (by unfold Ch; decide), (by unfold Ch; decide), own_chm i3, (by unfold Ch; decide), (by unfold Ch; decide), (by unfold Ch; decide)⟩
        · skip
          obtain ⟨cl181, Ar181, qk181, qs181, qn181, qh181, qg181⟩ := id f173
          have hin181 : ¬ ((5 : Int32) < 0 ∨ cl181.slots.size ≤ ((5 : Int32)).toNatClampNeg) := inb_of qs181 ⟨by decide, by decide⟩
          obtain ⟨T182, h182, X182, e182, W182, st182⟩ := stC X90 hx hZ e90 Ar181 (j := (5 : Int32)) hin181 (g := (mkF m 165 #[.val (.int i0), .val (.long j1), .second, .val (.int i3), .val (.int i4), .val (.ref b31), .val (.ref b60), .val (.int 0), .val (.int 5), .val (.int (i3 &&& (255 : Int32))), .unset, .unset, .unset, .unset, .unset] [(.int (i3 &&& (255 : Int32))), (.int 5), (.ref b31)])) rfl rfl (hb hby at_165)
          have V182 : Arv Z h182 b31 k31 .char (9 : Int32) [(.int 116), (.int 101), (.int 110), (.int 97), (.int 110), (.int ((i3 &&& (255 : Int32)).toUInt32.toUInt16.toUInt32.toInt32)), (.int 95), (.int 105), (.int 100)] (.int 0) := Arv.set Ar181 qk181 qs181 qn181 qh181 qg181 (fits_nar_char _) W182 5 rfl (Nat.le_of_ble_eq_true rfl)
          rw [i2c_mask] at V182
          have N182 := Fr.snoc X182 N90 g_b31
          have K183 := K91.wr W182 (Or.inr sz_b31)
          have O183 := O91.wr W182 g_b31
          have pre184 : ∀ tz_, Steps p.tables e below (T182.setTop (mkF m 166 #[.val (.int i0), .val (.long j1), .second, .val (.int i3), .val (.int i4), .val (.ref b31), .val (.ref b60), .val (.int 0), .val (.int 5), .val (.int (i3 &&& (255 : Int32))), .unset, .unset, .unset, .unset, .unset] [])) tz_ → Steps p.tables e below (s₁.setTop (entryFrame m #[(.int i0), (.long j1), (.int i3), (.int i4)] maxLocals)) tz_ := fun tz_ kk => pre175 tz_ (by
            show Steps p.tables e below (T90.setTop (mkF m 149 #[.val (.int i0), .val (.long j1), .second, .val (.int i3), .val (.int i4), .val (.ref b31), .val (.ref b60), .val (.int 1), .val (.int 5), .val (.int (i3 &&& (255 : Int32))), .unset, .unset, .unset, .unset, .unset] [(.int (i3 &&& (255 : Int32))), (.int 116)])) _
            refine XS.icmpYes X90.here hx rfl (pc0 := 149) (pc' := 156) rfl (hb hby at_149) rfl (feq hc176).2 (by decide) (by decide) ?_
            refine XS.iconst X90.here hx rfl (hb hby at_156) ?_
            refine XS.istore X90.here hx rfl (hb hby at_157) rfl (l' := #[.val (.int i0), .val (.long j1), .second, .val (.int i3), .val (.int i4), .val (.ref b31), .val (.ref b60), .val (.int 0), .val (.int 5), .val (.int (i3 &&& (255 : Int32))), .unset, .unset, .unset, .unset, .unset]) rfl ?_
            show Steps p.tables e below (T90.setTop (mkF m 159 #[.val (.int i0), .val (.long j1), .second, .val (.int i3), .val (.int i4), .val (.ref b31), .val (.ref b60), .val (.int 0), .val (.int 5), .val (.int (i3 &&& (255 : Int32))), .unset, .unset, .unset, .unset, .unset] [])) _
            refine XS.aload X90.here hx rfl (hb hby at_159) rfl rfl ?_
            refine XS.iload X90.here hx rfl (hb hby at_161) rfl ?_
            refine XS.iload X90.here hx rfl (hb hby at_163) rfl ?_
            show Steps p.tables e below (T90.setTop (mkF m 165 #[.val (.int i0), .val (.long j1), .second, .val (.int i3), .val (.int i4), .val (.ref b31), .val (.ref b60), .val (.int 0), .val (.int 5), .val (.int (i3 &&& (255 : Int32))), .unset, .unset, .unset, .unset, .unset] [(.int (i3 &&& (255 : Int32))), (.int 5), (.ref b31)])) _
            refine st182 _ ?_
            exact kk)
          exact tail93 ⟨(0 : Int32), (.val (.int 5)), (.val (.int (i3 &&& (255 : Int32)))), (116 : Int32), (101 : Int32), (110 : Int32), (97 : Int32), (110 : Int32), (i3 &&& (255 : Int32)), (95 : Int32), (105 : Int32), (100 : Int32), T182, _, X182.more (by decide) (by decide), N182, (by rw [e182]; exact ((Keep.refl h90 [b31]).wr W182 (Or.inl (List.mem_of_getElem? (i := 0) rfl)))), pre184, (by rw [e182]; exact V182), ⟨fun h => absurd rfl h, fun _ => ⟨5, _, by decide, rfl, hc176⟩⟩, (One.val rfl), (One.val rfl), (by unfold Ch; decide), (by unfold Ch; decide), (by unfold Ch; decide), (by unfold Ch; decide), (by unfold Ch; decide), own_chm i3, (by unfold Ch; decide), (by unfold Ch; decide), (by unfold Ch; decide)⟩
      · skip
        have pre185 := pre99
        rw [hk100] at pre185
        have ne186 : b31 ≠ b60 := (Nat.ne_of_lt (Nat.lt_of_lt_of_le V58.lt (Nat.le_of_eq q60.symm)))
        have f187 := (((((((((((V58.ext E60).other W63 ne186).other W66 ne186).other W69 ne186).other W72 ne186).other W75 ne186).other W78 ne186).other W81 ne186).other W84 ne186).other W87 ne186).other W90 ne186)
        obtain ⟨cl188, Ar188, qk188, qs188, qn188, qh188, qg188⟩ := id f187
        have hin188 : ¬ ((6 : Int32) < 0 ∨ cl188.slots.size ≤ ((6 : Int32)).toNatClampNeg) := inb_of qs188 ⟨by decide, by decide⟩
        have hat188 : cl188.slots[((6 : Int32)).toNatClampNeg]? = some (.int 95) := qh188.at hin188 rfl
        have pre189 : ∀ tz_, Steps p.tables e below (T90.setTop (mkF m 149 #[.val (.int i0), .val (.long j1), .second, .val (.int i3), .val (.int i4), .val (.ref b31), .val (.ref b60), .val (.int 1), .val (.int 6), .val (.int (i3 &&& (255 : Int32))), .unset, .unset, .unset, .unset, .unset] [(.int (i3 &&& (255 : Int32))), (.int 95)])) tz_ → Steps p.tables e below (s₁.setTop (entryFrame m #[(.int i0), (.long j1), (.int i3), (.int i4)] maxLocals)) tz_ := fun tz_ kk => pre185 tz_ (by
          show Steps p.tables e below (T90.setTop (mkF m 142 #[.val (.int i0), .val (.long j1), .second, .val (.int i3), .val (.int i4), .val (.ref b31), .val (.ref b60), .val (.int 1), .val (.int 6), .val (.int (i3 &&& (255 : Int32))), .unset, .unset, .unset, .unset, .unset] [])) _
          refine XS.aload X90.here hx rfl (hb hby at_142) rfl rfl ?_
          refine XS.iload X90.here hx rfl (hb hby at_144) rfl ?_
          show Steps p.tables e below (T90.setTop (mkF m 146 #[.val (.int i0), .val (.long j1), .second, .val (.int i3), .val (.int i4), .val (.ref b31), .val (.ref b60), .val (.int 1), .val (.int 6), .val (.int (i3 &&& (255 : Int32))), .unset, .unset, .unset, .unset, .unset] [(.int 6), (.ref b31)])) _
          refine X90.caload hx (j := (6 : Int32)) (v := (.int 95)) (by rw [e90]; exact Ar188.1) (State.isArrayOf_alike hZ.alike Ar188.2.1) Ar188.2.2 hin188 hat188 (g := (mkF m 146 #[.val (.int i0), .val (.long j1), .second, .val (.int i3), .val (.int i4), .val (.ref b31), .val (.ref b60), .val (.int 1), .val (.int 6), .val (.int (i3 &&& (255 : Int32))), .unset, .unset, .unset, .unset, .unset] [(.int 6), (.ref b31)])) rfl rfl (hb hby at_146) _ ?_
          refine XS.iload X90.here hx rfl (hb hby at_147) rfl ?_
          exact kk)
        by_cases hc190 : (95 : Int32) = (i3 &&& (255 : Int32))
        · skip
          obtain ⟨cl191, Ar191, qk191, qs191, qn191, qh191, qg191⟩ := id f187
          have hin191 : ¬ ((6 : Int32) < 0 ∨ cl191.slots.size ≤ ((6 : Int32)).toNatClampNeg) := inb_of qs191 ⟨by decide, by decide⟩
          obtain ⟨T192, h192, X192, e192, W192, st192⟩ := stC X90 hx hZ e90 Ar191 (j := (6 : Int32)) hin191 (g := (mkF m 165 #[.val (.int i0), .val (.long j1), .second, .val (.int i3), .val (.int i4), .val (.ref b31), .val (.ref b60), .val (.int 1), .val (.int 6), .val (.int (i3 &&& (255 : Int32))), .unset, .unset, .unset, .unset, .unset] [(.int (i3 &&& (255 : Int32))), (.int 6), (.ref b31)])) rfl rfl (hb hby at_165)
          have V192 : Arv Z h192 b31 k31 .char (9 : Int32) [(.int 116), (.int 101), (.int 110), (.int 97), (.int 110), (.int 116), (.int ((i3 &&& (255 : Int32)).toUInt32.toUInt16.toUInt32.toInt32)), (.int 105), (.int 100)] (.int 0) := Arv.set Ar191 qk191 qs191 qn191 qh191 qg191 (fits_nar_char _) W192 6 rfl (Nat.le_of_ble_eq_true rfl)
          rw [i2c_mask] at V192
          have N192 := Fr.snoc X192 N90 g_b31
          have K193 := K91.wr W192 (Or.inr sz_b31)
          have O193 := O91.wr W192 g_b31
          have pre194 : ∀ tz_, Steps p.tables e below (T192.setTop (mkF m 166 #[.val (.int i0), .val (.long j1), .second, .val (.int i3), .val (.int i4), .val (.ref b31), .val (.ref b60), .val (.int 1), .val (.int 6), .val (.int (i3 &&& (255 : Int32))), .unset, .unset, .unset, .unset, .unset] [])) tz_ → Steps p.tables e below (s₁.setTop (entryFrame m #[(.int i0), (.long j1), (.int i3), (.int i4)] maxLocals)) tz_ := fun tz_ kk => pre189 tz_ (by
            show Steps p.tables e below (T90.setTop (mkF m 149 #[.val (.int i0), .val (.long j1), .second, .val (.int i3), .val (.int i4), .val (.ref b31), .val (.ref b60), .val (.int 1), .val (.int 6), .val (.int (i3 &&& (255 : Int32))), .unset, .unset, .unset, .unset, .unset] [(.int (i3 &&& (255 : Int32))), (.int 95)])) _
            refine XS.icmpNo X90.here hx rfl (hb hby at_149) rfl (teq hc190).2 ?_
            refine XS.iconst X90.here hx rfl (hb hby at_152) ?_
            refine XS.goto X90.here hx rfl (pc0 := 153) (pc' := 157) rfl (hb hby at_153) (by decide) (by decide) ?_
            refine XS.istore X90.here hx rfl (hb hby at_157) rfl (l' := #[.val (.int i0), .val (.long j1), .second, .val (.int i3), .val (.int i4), .val (.ref b31), .val (.ref b60), .val (.int 1), .val (.int 6), .val (.int (i3 &&& (255 : Int32))), .unset, .unset, .unset, .unset, .unset]) rfl ?_
            show Steps p.tables e below (T90.setTop (mkF m 159 #[.val (.int i0), .val (.long j1), .second, .val (.int i3), .val (.int i4), .val (.ref b31), .val (.ref b60), .val (.int 1), .val (.int 6), .val (.int (i3 &&& (255 : Int32))), .unset, .unset, .unset, .unset, .unset] [])) _
            refine XS.aload X90.here hx rfl (hb hby at_159) rfl rfl ?_
            refine XS.iload X90.here hx rfl (hb hby at_161) rfl ?_
            refine XS.iload X90.here hx rfl (hb hby at_163) rfl ?_
            show Steps p.tables e below (T90.setTop (mkF m 165 #[.val (.int i0), .val (.long j1), .second, .val (.int i3), .val (.int i4), .val (.ref b31), .val (.ref b60), .val (.int 1), .val (.int 6), .val (.int (i3 &&& (255 : Int32))), .unset, .unset, .unset, .unset, .unset] [(.int (i3 &&& (255 : Int32))), (.int 6), (.ref b31)])) _
            refine st192 _ ?_
            exact kk)
          exact tail93 ⟨(1 : Int32), (.val (.int 6)), (.val (.int (i3 &&& (255 : Int32)))), (116 : Int32), (101 : Int32), (110 : Int32), (97 : Int32), (110 : Int32), (116 : Int32), (i3 &&& (255 : Int32)), (105 : Int32), (100 : Int32), T192, _, X192.more (by decide) (by decide), N192, (by rw [e192]; exact ((Keep.refl h90 [b31]).wr W192 (Or.inl (List.mem_of_getElem? (i := 0) rfl)))), pre194, (by rw [e192]; exact V192), ⟨fun _ => by rw [← hc190]; rfl, fun h => absurd h (by decide)⟩, (One.val rfl), (One.val rfl), (by unfold Ch; decide), (by unfold Ch; decide), (by unfold Ch; decide), (by unfold Ch; decide), (by unfold Ch; decide), (by unfold Ch; decide), own_chm i3, (by unfold Ch; decide), (by unfold Ch; decide)⟩
        · skip
          obtain ⟨cl195, Ar195, qk195, qs195, qn195, qh195, qg195⟩ := id f187
          have hin195 : ¬ ((6 : Int32) < 0 ∨ cl195.slots.size ≤ ((6 : Int32)).toNatClampNeg) := inb_of qs195 ⟨by decide, by decide⟩
          obtain ⟨T196, h196, X196, e196, W196, st196⟩ := stC X90 hx hZ e90 Ar195 (j := (6 : Int32)) hin195 (g := (mkF m 165 #[.val (.int i0), .val (.long j1), .second, .val (.int i3), .val (.int i4), .val (.ref b31), .val (.ref b60), .val (.int 0), .val (.int 6), .val (.int (i3 &&& (255 : Int32))), .unset, .unset, .unset, .unset, .unset] [(.int (i3 &&& (255 : Int32))), (.int 6), (.ref b31)])) rfl rfl (hb hby at_165)
          have V196 : Arv Z h196 b31 k31 .char (9 : Int32) [(.int 116), (.int 101), (.int 110), (.int 97), (.int 110), (.int 116), (.int ((i3 &&& (255 : Int32)).toUInt32.toUInt16.toUInt32.toInt32)), (.int 105), (.int 100)] (.int 0) := Arv.set Ar195 qk195 qs195 qn195 qh195 qg195 (fits_nar_char _) W196 6 rfl (Nat.le_of_ble_eq_true rfl)
          rw [i2c_mask] at V196
          have N196 := Fr.snoc X196 N90 g_b31
          have K197 := K91.wr W196 (Or.inr sz_b31)
          have O197 := O91.wr W196 g_b31
          have pre198 : ∀ tz_, Steps p.tables e below (T196.setTop (mkF m 166 #[.val (.int i0), .val (.long j1), .second, .val (.int i3), .val (.int i4), .val (.ref b31), .val (.ref b60), .val (.int 0), .val (.int 6), .val (.int (i3 &&& (255 : Int32))), .unset, .unset, .unset, .unset, .unset] [])) tz_ → Steps p.tables e below (s₁.setTop (entryFrame m #[(.int i0), (.long j1), (.int i3), (.int i4)] maxLocals)) tz_ := fun tz_ kk => pre189 tz_ (by
            show Steps p.tables e below (T90.setTop (mkF m 149 #[.val (.int i0), .val (.long j1), .second, .val (.int i3), .val (.int i4), .val (.ref b31), .val (.ref b60), .val (.int 1), .val (.int 6), .val (.int (i3 &&& (255 : Int32))), .unset, .unset, .unset, .unset, .unset] [(.int (i3 &&& (255 : Int32))), (.int 95)])) _
            refine XS.icmpYes X90.here hx rfl (pc0 := 149) (pc' := 156) rfl (hb hby at_149) rfl (feq hc190).2 (by decide) (by decide) ?_
            show Steps p.tables e below (T90.setTop (mkF m 156 #[.val (.int i0), .val (.long j1), .second, .val (.int i3), .val (.int i4), .val (.ref b31), .val (.ref b60), .val (.int 1), .val (.int 6), .val (.int (i3 &&& (255 : Int32))), .unset, .unset, .unset, .unset, .unset] [])) _
            refine XS.iconst X90.here hx rfl (hb hby at_156) ?_
            refine XS.istore X90.here hx rfl (hb hby at_157) rfl (l' := #[.val (.int i0), .val (.long j1), .second, .val (.int i3), .val (.int i4), .val (.ref b31), .val (.ref b60), .val (.int 0), .val (.int 6), .val (.int (i3 &&& (255 : Int32))), .unset, .unset, .unset, .unset, .unset]) rfl ?_
            refine XS.aload X90.here hx rfl (hb hby at_159) rfl rfl ?_
            refine XS.iload X90.here hx rfl (hb hby at_161) rfl ?_
            show Steps p.tables e below (T90.setTop (mkF m 163 #[.val (.int i0), .val (.long j1), .second, .val (.int i3), .val (.int i4), .val (.ref b31), .val (.ref b60), .val (.int 0), .val (.int 6), .val (.int (i3 &&& (255 : Int32))), .unset, .unset, .unset, .unset, .unset] [(.int 6), (.ref b31)])) _
            refine XS.iload X90.here hx rfl (hb hby at_163) rfl ?_
            show Steps p.tables e below (T90.setTop (mkF m 165 #[.val (.int i0), .val (.long j1), .second, .val (.int i3), .val (.int i4), .val (.ref b31), .val (.ref b60), .val (.int 0), .val (.int 6), .val (.int (i3 &&& (255 : Int32))), .unset, .unset, .unset, .unset, .unset] [(.int (i3 &&& (255 : Int32))), (.int 6), (.ref b31)])) _
            refine st196 _ ?_
            exact kk)
          exact tail93 ⟨(0 : Int32), (.val (.int 6)), (.val (.int (i3 &&& (255 : Int32)))), (116 : Int32), (101 : Int32), (110 : Int32), (97 : Int32), (110 : Int32), (116 : Int32), (i3 &&& (255 : Int32)), (105 : Int32), (100 : Int32), T196, _, X196.more (by decide) (by decide), N196, (by rw [e196]; exact ((Keep.refl h90 [b31]).wr W196 (Or.inl (List.mem_of_getElem? (i := 0) rfl)))), pre198, (by rw [e196]; exact V196), ⟨fun h => absurd rfl h, fun _ => ⟨6, _, by decide, rfl, hc190⟩⟩, (One.val rfl), (One.val rfl), (by unfold Ch; decide), (by unfold Ch; decide), (by unfold Ch; decide), (by unfold Ch; decide), (by unfold Ch; decide), (by unfold Ch; decide), own_chm i3, (by unfold Ch; decide), (by unfold Ch; decide)⟩
      · skip
        have pre199 := pre99
        rw [hk100] at pre199
        have ne200 : b31 ≠ b60 := (Nat.ne_of_lt (Nat.lt_of_lt_of_le V58.lt (Nat.le_of_eq q60.symm)))
        have f201 := (((((((((((V58.ext E60).other W63 ne200).other W66 ne200).other W69 ne200).other W72 ne200).other W75 ne200).other W78 ne200).other W81 ne200).other W84 ne200).other W87 ne200).other W90 ne200)
        obtain ⟨cl202, Ar202, qk202, qs202, qn202, qh202, qg202⟩ := id f201
        have hin202 : ¬ ((7 : Int32) < 0 ∨ cl202.slots.size ≤ ((7 : Int32)).toNatClampNeg) := inb_of qs202 ⟨by decide, by decide⟩
        have hat202 : cl202.slots[((7 : Int32)).toNatClampNeg]? = some (.int 105) := qh202.at hin202 rfl
        have pre203 : ∀ tz_, Steps p.tables e below (T90.setTop (mkF m 149 #[.val (.int i0), .val (.long j1), .second, .val (.int i3), .val (.int i4), .val (.ref b31), .val (.ref b60), .val (.int 1), .val (.int 7), .val (.int (i3 &&& (255 : Int32))), .unset, .unset, .unset, .unset, .unset] [(.int (i3 &&& (255 : Int32))), (.int 105)])) tz_ → Steps p.tables e below (s₁.setTop (entryFrame m #[(.int i0), (.long j1), (.int i3), (.int i4)] maxLocals)) tz_ := fun tz_ kk => pre199 tz_ (by
          show Steps p.tables e below (T90.setTop (mkF m 142 #[.val (.int i0), .val (.long j1), .second, .val (.int i3), .val (.int i4), .val (.ref b31), .val (.ref b60), .val (.int 1), .val (.int 7), .val (.int (i3 &&& (255 : Int32))), .unset, .unset, .unset, .unset, .unset] [])) _
          refine XS.aload X90.here hx rfl (hb hby at_142) rfl rfl ?_
          refine XS.iload X90.here hx rfl (hb hby at_144) rfl ?_
          show Steps p.tables e below (T90.setTop (mkF m 146 #[.val (.int i0), .val (.long j1), .second, .val (.int i3), .val (.int i4), .val (.ref b31), .val (.ref b60), .val (.int 1), .val (.int 7), .val (.int (i3 &&& (255 : Int32))), .unset, .unset, .unset, .unset, .unset] [(.int 7), (.ref b31)])) _
          refine X90.caload hx (j := (7 : Int32)) (v := (.int 105)) (by rw [e90]; exact Ar202.1) (State.isArrayOf_alike hZ.alike Ar202.2.1) Ar202.2.2 hin202 hat202 (g := (mkF m 146 #[.val (.int i0), .val (.long j1), .second, .val (.int i3), .val (.int i4), .val (.ref b31), .val (.ref b60), .val (.int 1), .val (.int 7), .val (.int (i3 &&& (255 : Int32))), .unset, .unset, .unset, .unset, .unset] [(.int 7), (.ref b31)])) rfl rfl (hb hby at_146) _ ?_
          refine XS.iload X90.here hx rfl (hb hby at_147) rfl ?_
          exact kk)
        by_cases hc204 : (105 : Int32) = (i3 &&& (255 : Int32))
        · skip
          obtain ⟨cl205, Ar205, qk205, qs205, qn205, qh205, qg205⟩ := id f201
          have hin205 : ¬ ((7 : Int32) < 0 ∨ cl205.slots.size ≤ ((7 : Int32)).toNatClampNeg) := inb_of qs205 ⟨by decide, by decide⟩
          obtain ⟨T206, h206, X206, e206, W206, st206⟩ := stC X90 hx hZ e90 Ar205 (j := (7 : Int32)) hin205 (g := (mkF m 165 #[.val (.int i0), .val (.long j1), .second, .val (.int i3), .val (.int i4), .val (.ref b31), .val (.ref b60), .val (.int 1), .val (.int 7), .val (.int (i3 &&& (255 : Int32))), .unset, .unset, .unset, .unset, .unset] [(.int (i3 &&& (255 : Int32))), (.int 7), (.ref b31)])) rfl rfl (hb hby at_165)
          have V206 : Arv Z h206 b31 k31 .char (9 : Int32) [(.int 116), (.int 101), (.int 110), (.int 97), (.int 110), (.int 116), (.int 95), (.int ((i3 &&& (255 : Int32)).toUInt32.toUInt16.toUInt32.toInt32)), (.int 100)] (.int 0) := Arv.set Ar205 qk205 qs205 qn205 qh205 qg205 (fits_nar_char _) W206 7 rfl (Nat.le_of_ble_eq_true rfl)
          rw [i2c_mask] at V206
          have N206 := Fr.snoc X206 N90 g_b31
          have K207 := K91.wr W206 (Or.inr sz_b31)
          have O207 := O91.wr W206 g_b31
          have pre208 : ∀ tz_, Steps p.tables e below (T206.setTop (mkF m 166 #[.val (.int i0), .val (.long j1), .second, .val (.int i3), .val (.int i4), .val (.ref b31), .val (.ref b60), .val (.int 1), .val (.int 7), .val (.int (i3 &&& (255 : Int32))), .unset, .unset, .unset, .unset, .unset] [])) tz_ → Steps p.tables e below (s₁.setTop (entryFrame m #[(.int i0), (.long j1), (.int i3), (.int i4)] maxLocals)) tz_ := fun tz_ kk => pre203 tz_ (by
            show Steps p.tables e below (T90.setTop (mkF m 149 #[.val (.int i0), .val (.long j1), .second, .val (.int i3), .val (.int i4), .val (.ref b31), .val (.ref b60), .val (.int 1), .val (.int 7), .val (.int (i3 &&& (255 : Int32))), .unset, .unset, .unset, .unset, .unset] [(.int (i3 &&& (255 : Int32))), (.int 105)])) _
            refine XS.icmpNo X90.here hx rfl (hb hby at_149) rfl (teq hc204).2 ?_
            refine XS.iconst X90.here hx rfl (hb hby at_152) ?_
            show Steps p.tables e below (T90.setTop (mkF m 153 #[.val (.int i0), .val (.long j1), .second, .val (.int i3), .val (.int i4), .val (.ref b31), .val (.ref b60), .val (.int 1), .val (.int 7), .val (.int (i3 &&& (255 : Int32))), .unset, .unset, .unset, .unset, .unset] [(.int 1)])) _
            refine XS.goto X90.here hx rfl (pc0 := 153) (pc' := 157) rfl (hb hby at_153) (by decide) (by decide) ?_
            refine XS.istore X90.here hx rfl (hb hby at_157) rfl (l' := #[.val (.int i0), .val (.long j1), .second, .val (.int i3), .val (.int i4), .val (.ref b31), .val (.ref b60), .val (.int 1), .val (.int 7), .val (.int (i3 &&& (255 : Int32))), .unset, .unset, .unset, .unset, .unset]) rfl ?_
            refine XS.aload X90.here hx rfl (hb hby at_159) rfl rfl ?_
            refine XS.iload X90.here hx rfl (hb hby at_161) rfl ?_
            show Steps p.tables e below (T90.setTop (mkF m 163 #[.val (.int i0), .val (.long j1), .second, .val (.int i3), .val (.int i4), .val (.ref b31), .val (.ref b60), .val (.int 1), .val (.int 7), .val (.int (i3 &&& (255 : Int32))), .unset, .unset, .unset, .unset, .unset] [(.int 7), (.ref b31)])) _
            refine XS.iload X90.here hx rfl (hb hby at_163) rfl ?_
            show Steps p.tables e below (T90.setTop (mkF m 165 #[.val (.int i0), .val (.long j1), .second, .val (.int i3), .val (.int i4), .val (.ref b31), .val (.ref b60), .val (.int 1), .val (.int 7), .val (.int (i3 &&& (255 : Int32))), .unset, .unset, .unset, .unset, .unset] [(.int (i3 &&& (255 : Int32))), (.int 7), (.ref b31)])) _
            refine st206 _ ?_
            exact kk)
          exact tail93 ⟨(1 : Int32), (.val (.int 7)), (.val (.int (i3 &&& (255 : Int32)))), (116 : Int32), (101 : Int32), (110 : Int32), (97 : Int32), (110 : Int32), (116 : Int32), (95 : Int32), (i3 &&& (255 : Int32)), (100 : Int32), T206, _, X206.more (by decide) (by decide), N206, (by rw [e206]; exact ((Keep.refl h90 [b31]).wr W206 (Or.inl (List.mem_of_getElem? (i := 0) rfl)))), pre208, (by rw [e206]; exact V206), ⟨fun _ => by rw [← hc204]; rfl, fun h => absurd h (by decide)⟩, (One.val rfl), (One.val rfl), (by unfold Ch; decide), (by unfold Ch; decide), (by unfold Ch; decide), (by unfold Ch; decide), (by unfold Ch; decide), (by unfold Ch; decide), (by unfold Ch; decide), own_chm i3, (by unfold Ch; decide)⟩
        · skip
          obtain ⟨cl209, Ar209, qk209, qs209, qn209, qh209, qg209⟩ := id f201
          have hin209 : ¬ ((7 : Int32) < 0 ∨ cl209.slots.size ≤ ((7 : Int32)).toNatClampNeg) := inb_of qs209 ⟨by decide, by decide⟩
          obtain ⟨T210, h210, X210, e210, W210, st210⟩ := stC X90 hx hZ e90 Ar209 (j := (7 : Int32)) hin209 (g := (mkF m 165 #[.val (.int i0), .val (.long j1), .second, .val (.int i3), .val (.int i4), .val (.ref b31), .val (.ref b60), .val (.int 0), .val (.int 7), .val (.int (i3 &&& (255 : Int32))), .unset, .unset, .unset, .unset, .unset] [(.int (i3 &&& (255 : Int32))), (.int 7), (.ref b31)])) rfl rfl (hb hby at_165)
          have V210 : Arv Z h210 b31 k31 .char (9 : Int32) [(.int 116), (.int 101), (.int 110), (.int 97), (.int 110), (.int 116), (.int 95), (.int ((i3 &&& (255 : Int32)).toUInt32.toUInt16.toUInt32.toInt32)), (.int 100)] (.int 0) := Arv.set Ar209 qk209 qs209 qn209 qh209 qg209 (fits_nar_char _) W210 7 rfl (Nat.le_of_ble_eq_true rfl)
          rw [i2c_mask] at V210
          have N210 := Fr.snoc X210 N90 g_b31
          have K211 := K91.wr W210 (Or.inr sz_b31)
          have O211 := O91.wr W210 g_b31
          have pre212 : ∀ tz_, Steps p.tables e below (T210.setTop (mkF m 166 #[.val (.int i0), .val (.long j1), .second, .val (.int i3), .val (.int i4), .val (.ref b31), .val (.ref b60), .val (.int 0), .val (.int 7), .val (.int (i3 &&& (255 : Int32))), .unset, .unset, .unset, .unset, .unset] [])) tz_ → Steps p.tables e below (s₁.setTop (entryFrame m #[(.int i0), (.long j1), (.int i3), (.int i4)] maxLocals)) tz_ := fun tz_ kk => pre203 tz_ (by
            show Steps p.tables e below (T90.setTop (mkF m 149 #[.val (.int i0), .val (.long j1), .second, .val (.int i3), .val (.int i4), .val (.ref b31), .val (.ref b60), .val (.int 1), .val (.int 7), .val (.int (i3 &&& (255 : Int32))), .unset, .unset, .unset, .unset, .unset] [(.int (i3 &&& (255 : Int32))), (.int 105)])) _
            refine XS.icmpYes X90.here hx rfl (pc0 := 149) (pc' := 156) rfl (hb hby at_149) rfl (feq hc204).2 (by decide) (by decide) ?_
            refine XS.iconst X90.here hx rfl (hb hby at_156) ?_
            refine XS.istore X90.here hx rfl (hb hby at_157) rfl (l' := #[.val (.int i0), .val (.long j1), .second, .val (.int i3), .val (.int i4), .val (.ref b31), .val (.ref b60), .val (.int 0), .val (.int 7), .val (.int (i3 &&& (255 : Int32))), .unset, .unset, .unset, .unset, .unset]) rfl ?_
            show Steps p.tables e below (T90.setTop (mkF m 159 #[.val (.int i0), .val (.long j1), .second, .val (.int i3), .val (.int i4), .val (.ref b31), .val (.ref b60), .val (.int 0), .val (.int 7), .val (.int (i3 &&& (255 : Int32))), .unset, .unset, .unset, .unset, .unset] [])) _
            refine XS.aload X90.here hx rfl (hb hby at_159) rfl rfl ?_
            refine XS.iload X90.here hx rfl (hb hby at_161) rfl ?_
            refine XS.iload X90.here hx rfl (hb hby at_163) rfl ?_
            show Steps p.tables e below (T90.setTop (mkF m 165 #[.val (.int i0), .val (.long j1), .second, .val (.int i3), .val (.int i4), .val (.ref b31), .val (.ref b60), .val (.int 0), .val (.int 7), .val (.int (i3 &&& (255 : Int32))), .unset, .unset, .unset, .unset, .unset] [(.int (i3 &&& (255 : Int32))), (.int 7), (.ref b31)])) _
            refine st210 _ ?_
            exact kk)
          exact tail93 ⟨(0 : Int32), (.val (.int 7)), (.val (.int (i3 &&& (255 : Int32)))), (116 : Int32), (101 : Int32), (110 : Int32), (97 : Int32), (110 : Int32), (116 : Int32), (95 : Int32), (i3 &&& (255 : Int32)), (100 : Int32), T210, _, X210.more (by decide) (by decide), N210, (by rw [e210]; exact ((Keep.refl h90 [b31]).wr W210 (Or.inl (List.mem_of_getElem? (i := 0) rfl)))), pre212, (by rw [e210]; exact V210), ⟨fun h => absurd rfl h, fun _ => ⟨7, _, by decide, rfl, hc204⟩⟩, (One.val rfl), (One.val rfl), (by unfold Ch; decide), (by unfold Ch; decide), (by unfold Ch; decide), (by unfold Ch; decide), (by unfold Ch; decide), (by unfold Ch; decide), (by unfold Ch; decide), own_chm i3, (by unfold Ch; decide)⟩
      · skip
        have pre213 := pre99
        rw [hk100] at pre213
        have ne214 : b31 ≠ b60 := (Nat.ne_of_lt (Nat.lt_of_lt_of_le V58.lt (Nat.le_of_eq q60.symm)))
        have f215 := (((((((((((V58.ext E60).other W63 ne214).other W66 ne214).other W69 ne214).other W72 ne214).other W75 ne214).other W78 ne214).other W81 ne214).other W84 ne214).other W87 ne214).other W90 ne214)
        obtain ⟨cl216, Ar216, qk216, qs216, qn216, qh216, qg216⟩ := id f215
        have hin216 : ¬ ((8 : Int32) < 0 ∨ cl216.slots.size ≤ ((8 : Int32)).toNatClampNeg) := inb_of qs216 ⟨by decide, by decide⟩
        have hat216 : cl216.slots[((8 : Int32)).toNatClampNeg]? = some (.int 100) := qh216.at hin216 rfl
        have pre217 : ∀ tz_, Steps p.tables e below (T90.setTop (mkF m 149 #[.val (.int i0), .val (.long j1), .second, .val (.int i3), .val (.int i4), .val (.ref b31), .val (.ref b60), .val (.int 1), .val (.int 8), .val (.int (i3 &&& (255 : Int32))), .unset, .unset, .unset, .unset, .unset] [(.int (i3 &&& (255 : Int32))), (.int 100)])) tz_ → Steps p.tables e below (s₁.setTop (entryFrame m #[(.int i0), (.long j1), (.int i3), (.int i4)] maxLocals)) tz_ := fun tz_ kk => pre213 tz_ (by
          show Steps p.tables e below (T90.setTop (mkF m 142 #[.val (.int i0), .val (.long j1), .second, .val (.int i3), .val (.int i4), .val (.ref b31), .val (.ref b60), .val (.int 1), .val (.int 8), .val (.int (i3 &&& (255 : Int32))), .unset, .unset, .unset, .unset, .unset] [])) _
          refine XS.aload X90.here hx rfl (hb hby at_142) rfl rfl ?_
          refine XS.iload X90.here hx rfl (hb hby at_144) rfl ?_
          show Steps p.tables e below (T90.setTop (mkF m 146 #[.val (.int i0), .val (.long j1), .second, .val (.int i3), .val (.int i4), .val (.ref b31), .val (.ref b60), .val (.int 1), .val (.int 8), .val (.int (i3 &&& (255 : Int32))), .unset, .unset, .unset, .unset, .unset] [(.int 8), (.ref b31)])) _
          refine X90.caload hx (j := (8 : Int32)) (v := (.int 100)) (by rw [e90]; exact Ar216.1) (State.isArrayOf_alike hZ.alike Ar216.2.1) Ar216.2.2 hin216 hat216 (g := (mkF m 146 #[.val (.int i0), .val (.long j1), .second, .val (.int i3), .val (.int i4), .val (.ref b31), .val (.ref b60), .val (.int 1), .val (.int 8), .val (.int (i3 &&& (255 : Int32))), .unset, .unset, .unset, .unset, .unset] [(.int 8), (.ref b31)])) rfl rfl (hb hby at_146) _ ?_
          refine XS.iload X90.here hx rfl (hb hby at_147) rfl ?_
          exact kk)
        by_cases hc218 : (100 : Int32) = (i3 &&& (255 : Int32))
        · skip
          obtain ⟨cl219, Ar219, qk219, qs219, qn219, qh219, qg219⟩ := id f215
          have hin219 : ¬ ((8 : Int32) < 0 ∨ cl219.slots.size ≤ ((8 : Int32)).toNatClampNeg) := inb_of qs219 ⟨by decide, by decide⟩
          obtain ⟨T220, h220, X220, e220, W220, st220⟩ := stC X90 hx hZ e90 Ar219 (j := (8 : Int32)) hin219 (g := (mkF m 165 #[.val (.int i0), .val (.long j1), .second, .val (.int i3), .val (.int i4), .val (.ref b31), .val (.ref b60), .val (.int 1), .val (.int 8), .val (.int (i3 &&& (255 : Int32))), .unset, .unset, .unset, .unset, .unset] [(.int (i3 &&& (255 : Int32))), (.int 8), (.ref b31)])) rfl rfl (hb hby at_165)
          have V220 : Arv Z h220 b31 k31 .char (9 : Int32) [(.int 116), (.int 101), (.int 110), (.int 97), (.int 110), (.int 116), (.int 95), (.int 105), (.int ((i3 &&& (255 : Int32)).toUInt32.toUInt16.toUInt32.toInt32))] (.int 0) := Arv.set Ar219 qk219 qs219 qn219 qh219 qg219 (fits_nar_char _) W220 8 rfl (Nat.le_of_ble_eq_true rfl)
          rw [i2c_mask] at V220
          have N220 := Fr.snoc X220 N90 g_b31
          have K221 := K91.wr W220 (Or.inr sz_b31)
          have O221 := O91.wr W220 g_b31
          have pre222 : ∀ tz_, Steps p.tables e below (T220.setTop (mkF m 166 #[.val (.int i0), .val (.long j1), .second, .val (.int i3), .val (.int i4), .val (.ref b31), .val (.ref b60), .val (.int 1), .val (.int 8), .val (.int (i3 &&& (255 : Int32))), .unset, .unset, .unset, .unset, .unset] [])) tz_ → Steps p.tables e below (s₁.setTop (entryFrame m #[(.int i0), (.long j1), (.int i3), (.int i4)] maxLocals)) tz_ := fun tz_ kk => pre217 tz_ (by
            show Steps p.tables e below (T90.setTop (mkF m 149 #[.val (.int i0), .val (.long j1), .second, .val (.int i3), .val (.int i4), .val (.ref b31), .val (.ref b60), .val (.int 1), .val (.int 8), .val (.int (i3 &&& (255 : Int32))), .unset, .unset, .unset, .unset, .unset] [(.int (i3 &&& (255 : Int32))), (.int 100)])) _
            refine XS.icmpNo X90.here hx rfl (hb hby at_149) rfl (teq hc218).2 ?_
            refine XS.iconst X90.here hx rfl (hb hby at_152) ?_
            refine XS.goto X90.here hx rfl (pc0 := 153) (pc' := 157) rfl (hb hby at_153) (by decide) (by decide) ?_
            refine XS.istore X90.here hx rfl (hb hby at_157) rfl (l' := #[.val (.int i0), .val (.long j1), .second, .val (.int i3), .val (.int i4), .val (.ref b31), .val (.ref b60), .val (.int 1), .val (.int 8), .val (.int (i3 &&& (255 : Int32))), .unset, .unset, .unset, .unset, .unset]) rfl ?_
            show Steps p.tables e below (T90.setTop (mkF m 159 #[.val (.int i0), .val (.long j1), .second, .val (.int i3), .val (.int i4), .val (.ref b31), .val (.ref b60), .val (.int 1), .val (.int 8), .val (.int (i3 &&& (255 : Int32))), .unset, .unset, .unset, .unset, .unset] [])) _
            refine XS.aload X90.here hx rfl (hb hby at_159) rfl rfl ?_
            refine XS.iload X90.here hx rfl (hb hby at_161) rfl ?_
            refine XS.iload X90.here hx rfl (hb hby at_163) rfl ?_
            show Steps p.tables e below (T90.setTop (mkF m 165 #[.val (.int i0), .val (.long j1), .second, .val (.int i3), .val (.int i4), .val (.ref b31), .val (.ref b60), .val (.int 1), .val (.int 8), .val (.int (i3 &&& (255 : Int32))), .unset, .unset, .unset, .unset, .unset] [(.int (i3 &&& (255 : Int32))), (.int 8), (.ref b31)])) _
            refine st220 _ ?_
            exact kk)
          exact tail93 ⟨(1 : Int32), (.val (.int 8)), (.val (.int (i3 &&& (255 : Int32)))), (116 : Int32), (101 : Int32), (110 : Int32), (97 : Int32), (110 : Int32), (116 : Int32), (95 : Int32), (105 : Int32), (i3 &&& (255 : Int32)), T220, _, X220.more (by decide) (by decide), N220, (by rw [e220]; exact ((Keep.refl h90 [b31]).wr W220 (Or.inl (List.mem_of_getElem? (i := 0) rfl)))), pre222, (by rw [e220]; exact V220), ⟨fun _ => by rw [← hc218]; rfl, fun h => absurd h (by decide)⟩, (One.val rfl), (One.val rfl), (by unfold Ch; decide), (by unfold Ch; decide), (by unfold Ch; decide), (by unfold Ch; decide), (by unfold Ch; decide), (by unfold Ch; decide), (by unfold Ch; decide), (by unfold Ch; decide), own_chm i3⟩
        · skip
          obtain ⟨cl223, Ar223, qk223, qs223, qn223, qh223, qg223⟩ := id f215
          have hin223 : ¬ ((8 : Int32) < 0 ∨ cl223.slots.size ≤ ((8 : Int32)).toNatClampNeg) := inb_of qs223 ⟨by decide, by decide⟩
          obtain ⟨T224, h224, X224, e224, W224, st224⟩ := stC X90 hx hZ e90 Ar223 (j := (8 : Int32)) hin223 (g := (mkF m 165 #[.val (.int i0), .val (.long j1), .second, .val (.int i3), .val (.int i4), .val (.ref b31), .val (.ref b60), .val (.int 0), .val (.int 8), .val (.int (i3 &&& (255 : Int32))), .unset, .unset, .unset, .unset, .unset] [(.int (i3 &&& (255 : Int32))), (.int 8), (.ref b31)])) rfl rfl (hb hby at_165)
          have V224 : Arv Z h224 b31 k31 .char (9 : Int32) [(.int 116), (.int 101), (.int 110), (.int 97), (.int 110), (.int 116), (.int 95), (.int 105), (.int ((i3 &&& (255 : Int32)).toUInt32.toUInt16.toUInt32.toInt32))] (.int 0) := Arv.set Ar223 qk223 qs223 qn223 qh223 qg223 (fits_nar_char _) W224 8 rfl (Nat.le_of_ble_eq_true rfl)
          rw [i2c_mask] at V224
          have N224 := Fr.snoc X224 N90 g_b31
          have K225 := K91.wr W224 (Or.inr sz_b31)
          have O225 := O91.wr W224 g_b31
          have pre226 : ∀ tz_, Steps p.tables e below (T224.setTop (mkF m 166 #[.val (.int i0), .val (.long j1), .second, .val (.int i3), .val (.int i4), .val (.ref b31), .val (.ref b60), .val (.int 0), .val (.int 8), .val (.int (i3 &&& (255 : Int32))), .unset, .unset, .unset, .unset, .unset] [])) tz_ → Steps p.tables e below (s₁.setTop (entryFrame m #[(.int i0), (.long j1), (.int i3), (.int i4)] maxLocals)) tz_ := fun tz_ kk => pre217 tz_ (by
            show Steps p.tables e below (T90.setTop (mkF m 149 #[.val (.int i0), .val (.long j1), .second, .val (.int i3), .val (.int i4), .val (.ref b31), .val (.ref b60), .val (.int 1), .val (.int 8), .val (.int (i3 &&& (255 : Int32))), .unset, .unset, .unset, .unset, .unset] [(.int (i3 &&& (255 : Int32))), (.int 100)])) _
            refine XS.icmpYes X90.here hx rfl (pc0 := 149) (pc' := 156) rfl (hb hby at_149) rfl (feq hc218).2 (by decide) (by decide) ?_
            show Steps p.tables e below (T90.setTop (mkF m 156 #[.val (.int i0), .val (.long j1), .second, .val (.int i3), .val (.int i4), .val (.ref b31), .val (.ref b60), .val (.int 1), .val (.int 8), .val (.int (i3 &&& (255 : Int32))), .unset, .unset, .unset, .unset, .unset] [])) _
            refine XS.iconst X90.here hx rfl (hb hby at_156) ?_
            refine XS.istore X90.here hx rfl (hb hby at_157) rfl (l' := #[.val (.int i0), .val (.long j1), .second, .val (.int i3), .val (.int i4), .val (.ref b31), .val (.ref b60), .val (.int 0), .val (.int 8), .val (.int (i3 &&& (255 : Int32))), .unset, .unset, .unset, .unset, .unset]) rfl ?_
            refine XS.aload X90.here hx rfl (hb hby at_159) rfl rfl ?_
            refine XS.iload X90.here hx rfl (hb hby at_161) rfl ?_
            show Steps p.tables e below (T90.setTop (mkF m 163 #[.val (.int i0), .val (.long j1), .second, .val (.int i3), .val (.int i4), .val (.ref b31), .val (.ref b60), .val (.int 0), .val (.int 8), .val (.int (i3 &&& (255 : Int32))), .unset, .unset, .unset, .unset, .unset] [(.int 8), (.ref b31)])) _
            refine XS.iload X90.here hx rfl (hb hby at_163) rfl ?_
            show Steps p.tables e below (T90.setTop (mkF m 165 #[.val (.int i0), .val (.long j1), .second, .val (.int i3), .val (.int i4), .val (.ref b31), .val (.ref b60), .val (.int 0), .val (.int 8), .val (.int (i3 &&& (255 : Int32))), .unset, .unset, .unset, .unset, .unset] [(.int (i3 &&& (255 : Int32))), (.int 8), (.ref b31)])) _
            refine st224 _ ?_
            exact kk)
          exact tail93 ⟨(0 : Int32), (.val (.int 8)), (.val (.int (i3 &&& (255 : Int32)))), (116 : Int32), (101 : Int32), (110 : Int32), (97 : Int32), (110 : Int32), (116 : Int32), (95 : Int32), (105 : Int32), (i3 &&& (255 : Int32)), T224, _, X224.more (by decide) (by decide), N224, (by rw [e224]; exact ((Keep.refl h90 [b31]).wr W224 (Or.inl (List.mem_of_getElem? (i := 0) rfl)))), pre226, (by rw [e224]; exact V224), ⟨fun h => absurd rfl h, fun _ => ⟨8, _, by decide, rfl, hc218⟩⟩, (One.val rfl), (One.val rfl), (by unfold Ch; decide), (by unfold Ch; decide), (by unfold Ch; decide), (by unfold Ch; decide), (by unfold Ch; decide), (by unfold Ch; decide), (by unfold Ch; decide), (by unfold Ch; decide), own_chm i3⟩
  · skip
    rintro ⟨ti, ta, tb, x0, x1, x2, x3, x4, x5, x6, x7, x8, T93, Lq93, X93, N93, Kj93, pre93, j93_0, ht, hota, hotb, hc_x0, hc_x1, hc_x2, hc_x3, hc_x4, hc_x5, hc_x6, hc_x7, hc_x8⟩
    have K227 := K91.trans Kj93 (allS (Or.inr sz_b31) all0)
    have O227 := O91.keep Kj93 (allS g_b31 all0)
    have pre228 : ∀ tz_, Steps p.tables e below (T93.setTop (mkF m 169 #[.val (.int i0), .val (.long j1), .second, .val (.int i3), .val (.int i4), .val (.ref b31), .val (.ref b60), .val (.int ti), .val (.int 1), tb, .unset, .unset, .unset, .unset, .unset] [])) tz_ → Steps p.tables e below (s₁.setTop (entryFrame m #[(.int i0), (.long j1), (.int i3), (.int i4)] maxLocals)) tz_ := fun tz_ kk => pre93 tz_ (by
      show Steps p.tables e below (T93.setTop (mkF m 166 #[.val (.int i0), .val (.long j1), .second, .val (.int i3), .val (.int i4), .val (.ref b31), .val (.ref b60), .val (.int ti), ta, tb, .unset, .unset, .unset, .unset, .unset] [])) _
      refine XS.iconst X93.here hx rfl (hb hby at_166) ?_
      refine XS.istoreS X93.here hx rfl (hb hby at_167) rfl rfl hota ?_
      exact kk)
    refine cps (A := ∃ (pi : Int32) (pa : Slot) (pb : Slot) (y0 : Int32) (y1 : Int32) (y2 : Int32) (y3 : Int32) (y4 : Int32) (y5 : Int32) (y6 : Int32) (y7 : Int32) (y8 : Int32) (y9 : Int32) (T : State) (Lq : List Loc), Stand p l e room_1 s m #[(.int i0), (.long j1), (.int i3), (.int i4)] below meth c T Lq 2 19 ∧ Fr n0 Lq ∧ Keep T93.heap T.heap [b60] ∧ (∀ tz_, Steps p.tables e below (T.setTop (mkF m 221 #[.val (.int i0), .val (.long j1), .second, .val (.int i3), .val (.int i4), .val (.ref b31), .val (.ref b60), .val (.int ti), .val (.int pi), pa, pb, .unset, .unset, .unset, .unset] [])) tz_ → Steps p.tables e below (s₁.setTop (entryFrame m #[(.int i0), (.long j1), (.int i3), (.int i4)] maxLocals)) tz_) ∧ (Arv Z T.heap b60 k60 .char (10 : Int32) [(.int y0), (.int y1), (.int y2), (.int y3), (.int y4), (.int y5), (.int y6), (.int y7), (.int y8), (.int y9)] (.int 0)) ∧ ((¬ (pi = (0 : Int32)) → [y0, y1, y2, y3, y4, y5, y6, y7, y8, y9] = PN) ∧ (pi = (0 : Int32) → Ed PN [y0, y1, y2, y3, y4, y5, y6, y7, y8, y9])) ∧ (One pa) ∧ (One pb) ∧ (Ch y0) ∧ (Ch y1) ∧ (Ch y2) ∧ (Ch y3) ∧ (Ch y4) ∧ (Ch y5) ∧ (Ch y6) ∧ (Ch y7) ∧ (Ch y8) ∧ (Ch y9)) (fun tail229 => ?_) ?_
    · skip
      have pre230 : ∀ tz_, Steps p.tables e below (T93.setTop (mkF m 175 #[.val (.int i0), .val (.long j1), .second, .val (.int i3), .val (.int i4), .val (.ref b31), .val (.ref b60), .val (.int ti), .val (.int 1), tb, .unset, .unset, .unset, .unset, .unset] [(.int (i4 &&& (256 : Int32)))])) tz_ → Steps p.tables e below (s₁.setTop (entryFrame m #[(.int i0), (.long j1), (.int i3), (.int i4)] maxLocals)) tz_ := fun tz_ kk => pre228 tz_ (by
        show Steps p.tables e below (T93.setTop (mkF m 169 #[.val (.int i0), .val (.long j1), .second, .val (.int i3), .val (.int i4), .val (.ref b31), .val (.ref b60), .val (.int ti), .val (.int 1), tb, .unset, .unset, .unset, .unset, .unset] [])) _
        refine XS.iload X93.here hx rfl (hb hby at_169) rfl ?_
        refine XS.sipush X93.here hx rfl (hb hby at_171) ?_
        show Steps p.tables e below (T93.setTop (mkF m 174 #[.val (.int i0), .val (.long j1), .second, .val (.int i3), .val (.int i4), .val (.ref b31), .val (.ref b60), .val (.int ti), .val (.int 1), tb, .unset, .unset, .unset, .unset, .unset] [(.int 256), (.int i4)])) _
        refine XS.iand X93.here hx rfl (hb hby at_174) rfl ?_
        exact kk)
      by_cases hc231 : (i4 &&& (256 : Int32)) = (0 : Int32)
      · skip
        have pre232 : ∀ tz_, Steps p.tables e below (T93.setTop (mkF m 221 #[.val (.int i0), .val (.long j1), .second, .val (.int i3), .val (.int i4), .val (.ref b31), .val (.ref b60), .val (.int ti), .val (.int 1), tb, .unset, .unset, .unset, .unset, .unset] [])) tz_ → Steps p.tables e below (s₁.setTop (entryFrame m #[(.int i0), (.long j1), (.int i3), (.int i4)] maxLocals)) tz_ := fun tz_ kk => pre230 tz_ (by
          show Steps p.tables e below (T93.setTop (mkF m 175 #[.val (.int i0), .val (.long j1), .second, .val (.int i3), .val (.int i4), .val (.ref b31), .val (.ref b60), .val (.int ti), .val (.int 1), tb, .unset, .unset, .unset, .unset, .unset] [(.int (i4 &&& (256 : Int32)))])) _
          refine XS.ifYes X93.here hx rfl (pc0 := 175) (pc' := 221) rfl (hb hby at_175) rfl ((if0 _ _).trans (teq hc231).1) (by decide) (by decide) ?_
          exact kk)
        have ne233 : b60 ≠ b31 := (Ne.symm (Nat.ne_of_lt (Nat.lt_of_lt_of_le V58.lt (Nat.le_of_eq q60.symm))))
        have f234 := (V90.keep Kj93 (ninS ne233 nin0))
        exact tail229 ⟨(1 : Int32), tb, (.unset), (112 : Int32), (114 : Int32), (111 : Int32), (106 : Int32), (101 : Int32), (99 : Int32), (116 : Int32), (95 : Int32), (105 : Int32), (100 : Int32), T93, _, X93.more (by decide) (by decide), N93, (Keep.refl T93.heap [b60]), pre232, f234, ⟨fun _ => rfl, fun h => absurd h (by decide)⟩, hotb, One.u, (by unfold Ch; decide), (by unfold Ch; decide), (by unfold Ch; decide), (by unfold Ch; decide), (by unfold Ch; decide), (by unfold Ch; decide), (by unfold Ch; decide), (by unfold Ch; decide), (by unfold Ch; decide), (by unfold Ch; decide)⟩
      · skip
        have pre235 : ∀ tz_, Steps p.tables e below (T93.setTop (mkF m 197 #[.val (.int i0), .val (.long j1), .second, .val (.int i3), .val (.int i4), .val (.ref b31), .val (.ref b60), .val (.int ti), .val (.int 1), .val (.int (((i4.toUInt32 >>> ((9 : Int32) &&& 31).toUInt32).toInt32) % (10 : Int32))), .val (.int (i4 &&& (255 : Int32))), .unset, .unset, .unset, .unset] [])) tz_ → Steps p.tables e below (s₁.setTop (entryFrame m #[(.int i0), (.long j1), (.int i3), (.int i4)] maxLocals)) tz_ := fun tz_ kk => pre230 tz_ (by
          show Steps p.tables e below (T93.setTop (mkF m 175 #[.val (.int i0), .val (.long j1), .second, .val (.int i3), .val (.int i4), .val (.ref b31), .val (.ref b60), .val (.int ti), .val (.int 1), tb, .unset, .unset, .unset, .unset, .unset] [(.int (i4 &&& (256 : Int32)))])) _
          refine XS.ifNo X93.here hx rfl (hb hby at_175) rfl ((if0 _ _).trans (feq hc231).1) ?_
          show Steps p.tables e below (T93.setTop (mkF m 178 #[.val (.int i0), .val (.long j1), .second, .val (.int i3), .val (.int i4), .val (.ref b31), .val (.ref b60), .val (.int ti), .val (.int 1), tb, .unset, .unset, .unset, .unset, .unset] [])) _
          refine XS.iload X93.here hx rfl (hb hby at_178) rfl ?_
          refine XS.bipush X93.here hx rfl (hb hby at_180) ?_
          show Steps p.tables e below (T93.setTop (mkF m 182 #[.val (.int i0), .val (.long j1), .second, .val (.int i3), .val (.int i4), .val (.ref b31), .val (.ref b60), .val (.int ti), .val (.int 1), tb, .unset, .unset, .unset, .unset, .unset] [(.int 9), (.int i4)])) _
          refine XS.iushr X93.here hx rfl (hb hby at_182) rfl ?_
          refine XS.bipush X93.here hx rfl (hb hby at_183) ?_
          show Steps p.tables e below (T93.setTop (mkF m 185 #[.val (.int i0), .val (.long j1), .second, .val (.int i3), .val (.int i4), .val (.ref b31), .val (.ref b60), .val (.int ti), .val (.int 1), tb, .unset, .unset, .unset, .unset, .unset] [(.int 10), (.int ((i4.toUInt32 >>> ((9 : Int32) &&& 31).toUInt32).toInt32))])) _
          refine Jvm.RoadKit.iremM X93 hx rfl (hb hby at_185) rfl (by decide) ?_
          refine XS.istoreS X93.here hx rfl (hb hby at_186) rfl rfl hotb ?_
          refine XS.iload X93.here hx rfl (hb hby at_188) rfl ?_
          refine XS.sipush X93.here hx rfl (hb hby at_190) ?_
          show Steps p.tables e below (T93.setTop (mkF m 193 #[.val (.int i0), .val (.long j1), .second, .val (.int i3), .val (.int i4), .val (.ref b31), .val (.ref b60), .val (.int ti), .val (.int 1), .val (.int (((i4.toUInt32 >>> ((9 : Int32) &&& 31).toUInt32).toInt32) % (10 : Int32))), .unset, .unset, .unset, .unset, .unset] [(.int 255), (.int i4)])) _
          refine XS.iand X93.here hx rfl (hb hby at_193) rfl ?_
          show Steps p.tables e below (T93.setTop (mkF m 194 #[.val (.int i0), .val (.long j1), .second, .val (.int i3), .val (.int i4), .val (.ref b31), .val (.ref b60), .val (.int ti), .val (.int 1), .val (.int (((i4.toUInt32 >>> ((9 : Int32) &&& 31).toUInt32).toInt32) % (10 : Int32))), .unset, .unset, .unset, .unset, .unset] [(.int (i4 &&& (255 : Int32)))])) _
          refine XS.i2c X93.here hx rfl (hb hby at_194) rfl ?_
          show Steps p.tables e below (T93.setTop (mkF m 195 #[.val (.int i0), .val (.long j1), .second, .val (.int i3), .val (.int i4), .val (.ref b31), .val (.ref b60), .val (.int ti), .val (.int 1), .val (.int (((i4.toUInt32 >>> ((9 : Int32) &&& 31).toUInt32).toInt32) % (10 : Int32))), .unset, .unset, .unset, .unset, .unset] [(.int ((i4 &&& (255 : Int32)).toUInt32.toUInt16.toUInt32.toInt32))])) _
          rw [i2c_mask]
          refine XS.istore X93.here hx rfl (hb hby at_195) rfl (l' := #[.val (.int i0), .val (.long j1), .second, .val (.int i3), .val (.int i4), .val (.ref b31), .val (.ref b60), .val (.int ti), .val (.int 1), .val (.int (((i4.toUInt32 >>> ((9 : Int32) &&& 31).toUInt32).toInt32) % (10 : Int32))), .val (.int (i4 &&& (255 : Int32))), .unset, .unset, .unset, .unset]) rfl ?_
          exact kk)
        rcases (own_k10 i4) with hk236 | hk236 | hk236 | hk236 | hk236 | hk236 | hk236 | hk236 | hk236 | hk236
        · skip
          have pre237 := pre235
          rw [hk236] at pre237
          have ne238 : b60 ≠ b31 := (Ne.symm (Nat.ne_of_lt (Nat.lt_of_lt_of_le V58.lt (Nat.le_of_eq q60.symm))))
          have f239 := (V90.keep Kj93 (ninS ne238 nin0))
          obtain ⟨cl240, Ar240, qk240, qs240, qn240, qh240, qg240⟩ := id f239
          have hin240 : ¬ ((0 : Int32) < 0 ∨ cl240.slots.size ≤ ((0 : Int32)).toNatClampNeg) := inb_of qs240 ⟨by decide, by decide⟩
          have hat240 : cl240.slots[((0 : Int32)).toNatClampNeg]? = some (.int 112) := qh240.at hin240 rfl
          have pre241 : ∀ tz_, Steps p.tables e below (T93.setTop (mkF m 204 #[.val (.int i0), .val (.long j1), .second, .val (.int i3), .val (.int i4), .val (.ref b31), .val (.ref b60), .val (.int ti), .val (.int 1), .val (.int 0), .val (.int (i4 &&& (255 : Int32))), .unset, .unset, .unset, .unset] [(.int (i4 &&& (255 : Int32))), (.int 112)])) tz_ → Steps p.tables e below (s₁.setTop (entryFrame m #[(.int i0), (.long j1), (.int i3), (.int i4)] maxLocals)) tz_ := fun tz_ kk => pre237 tz_ (by
            show Steps p.tables e below (T93.setTop (mkF m 197 #[.val (.int i0), .val (.long j1), .second, .val (.int i3), .val (.int i4), .val (.ref b31), .val (.ref b60), .val (.int ti), .val (.int 1), .val (.int 0), .val (.int (i4 &&& (255 : Int32))), .unset, .unset, .unset, .unset] [])) _
            refine XS.aload X93.here hx rfl (hb hby at_197) rfl rfl ?_
            show Steps p.tables e below (T93.setTop (mkF m 199 #[.val (.int i0), .val (.long j1), .second, .val (.int i3), .val (.int i4), .val (.ref b31), .val (.ref b60), .val (.int ti), .val (.int 1), .val (.int 0), .val (.int (i4 &&& (255 : Int32))), .unset, .unset, .unset, .unset] [(.ref b60)])) _
            refine XS.iload X93.here hx rfl (hb hby at_199) rfl ?_
            show Steps p.tables e below (T93.setTop (mkF m 201 #[.val (.int i0), .val (.long j1), .second, .val (.int i3), .val (.int i4), .val (.ref b31), .val (.ref b60), .val (.int ti), .val (.int 1), .val (.int 0), .val (.int (i4 &&& (255 : Int32))), .unset, .unset, .unset, .unset] [(.int 0), (.ref b60)])) _
            refine X93.caload hx (j := (0 : Int32)) (v := (.int 112)) Ar240.1 (State.isArrayOf_alike hZ.alike Ar240.2.1) Ar240.2.2 hin240 hat240 (g := (mkF m 201 #[.val (.int i0), .val (.long j1), .second, .val (.int i3), .val (.int i4), .val (.ref b31), .val (.ref b60), .val (.int ti), .val (.int 1), .val (.int 0), .val (.int (i4 &&& (255 : Int32))), .unset, .unset, .unset, .unset] [(.int 0), (.ref b60)])) rfl rfl (hb hby at_201) _ ?_
            refine XS.iload X93.here hx rfl (hb hby at_202) rfl ?_
            exact kk)
          by_cases hc242 : (112 : Int32) = (i4 &&& (255 : Int32))
          · skip
            obtain ⟨cl243, Ar243, qk243, qs243, qn243, qh243, qg243⟩ := id f239
            have hin243 : ¬ ((0 : Int32) < 0 ∨ cl243.slots.size ≤ ((0 : Int32)).toNatClampNeg) := inb_of qs243 ⟨by decide, by decide⟩
            obtain ⟨T244, h244, X244, e244, W244, st244⟩ := stC X93 hx hZ rfl Ar243 (j := (0 : Int32)) hin243 (g := (mkF m 220 #[.val (.int i0), .val (.long j1), .second, .val (.int i3), .val (.int i4), .val (.ref b31), .val (.ref b60), .val (.int ti), .val (.int 1), .val (.int 0), .val (.int (i4 &&& (255 : Int32))), .unset, .unset, .unset, .unset] [(.int (i4 &&& (255 : Int32))), (.int 0), (.ref b60)])) rfl rfl (hb hby at_220)
            have V244 : Arv Z h244 b60 k60 .char (10 : Int32) [(.int ((i4 &&& (255 : Int32)).toUInt32.toUInt16.toUInt32.toInt32)), (.int 114), (.int 111), (.int 106), (.int 101), (.int 99), (.int 116), (.int 95), (.int 105), (.int 100)] (.int 0) := Arv.set Ar243 qk243 qs243 qn243 qh243 qg243 (fits_nar_char _) W244 0 rfl (Nat.le_of_ble_eq_true rfl)
            rw [i2c_mask] at V244
            have N244 := Fr.snoc X244 N93 g_b60
            have K245 := K227.wr W244 (Or.inr sz_b60)
            have O245 := O227.wr W244 g_b60
            have pre246 : ∀ tz_, Steps p.tables e below (T244.setTop (mkF m 221 #[.val (.int i0), .val (.long j1), .second, .val (.int i3), .val (.int i4), .val (.ref b31), .val (.ref b60), .val (.int ti), .val (.int 1), .val (.int 0), .val (.int (i4 &&& (255 : Int32))), .unset, .unset, .unset, .unset] [])) tz_ → Steps p.tables e below (s₁.setTop (entryFrame m #[(.int i0), (.long j1), (.int i3), (.int i4)] maxLocals)) tz_ := fun tz_ kk => pre241 tz_ (by
              show Steps p.tables e below (T93.setTop (mkF m 204 #[.val (.int i0), .val (.long j1), .second, .val (.int i3), .val (.int i4), .val (.ref b31), .val (.ref b60), .val (.int ti), .val (.int 1), .val (.int 0), .val (.int (i4 &&& (255 : Int32))), .unset, .unset, .unset, .unset] [(.int (i4 &&& (255 : Int32))), (.int 112)])) _
              refine XS.icmpNo X93.here hx rfl (hb hby at_204) rfl (teq hc242).2 ?_
              show Steps p.tables e below (T93.setTop (mkF m 207 #[.val (.int i0), .val (.long j1), .second, .val (.int i3), .val (.int i4), .val (.ref b31), .val (.ref b60), .val (.int ti), .val (.int 1), .val (.int 0), .val (.int (i4 &&& (255 : Int32))), .unset, .unset, .unset, .unset] [])) _
              refine XS.iconst X93.here hx rfl (hb hby at_207) ?_
              refine XS.goto X93.here hx rfl (pc0 := 208) (pc' := 212) rfl (hb hby at_208) (by decide) (by decide) ?_
              refine XS.istore X93.here hx rfl (hb hby at_212) rfl (l' := #[.val (.int i0), .val (.long j1), .second, .val (.int i3), .val (.int i4), .val (.ref b31), .val (.ref b60), .val (.int ti), .val (.int 1), .val (.int 0), .val (.int (i4 &&& (255 : Int32))), .unset, .unset, .unset, .unset]) rfl ?_
              refine XS.aload X93.here hx rfl (hb hby at_214) rfl rfl ?_
              show Steps p.tables e below (T93.setTop (mkF m 216 #[.val (.int i0), .val (.long j1), .second, .val (.int i3), .val (.int i4), .val (.ref b31), .val (.ref b60), .val (.int ti), .val (.int 1), .val (.int 0), .val (.int (i4 &&& (255 : Int32))), .unset, .unset, .unset, .unset] [(.ref b60)])) _
              refine XS.iload X93.here hx rfl (hb hby at_216) rfl ?_
              refine XS.iload X93.here hx rfl (hb hby at_218) rfl ?_
              show Steps p.tables e below (T93.setTop (mkF m 220 #[.val (.int i0), .val (.long j1), .second, .val (.int i3), .val (.int i4), .val (.ref b31), .val (.ref b60), .val (.int ti), .val (.int 1), .val (.int 0), .val (.int (i4 &&& (255 : Int32))), .unset, .unset, .unset, .unset] [(.int (i4 &&& (255 : Int32))), (.int 0), (.ref b60)])) _
              refine st244 _ ?_
              exact kk)
            exact tail229 ⟨(1 : Int32), (.val (.int 0)), (.val (.int (i4 &&& (255 : Int32)))), (i4 &&& (255 : Int32)), (114 : Int32), (111 : Int32), (106 : Int32), (101 : Int32), (99 : Int32), (116 : Int32), (95 : Int32), (105 : Int32), (100 : Int32), T244, _, X244.more (by decide) (by decide), N244, (by rw [e244]; exact ((Keep.refl T93.heap [b60]).wr W244 (Or.inl (List.mem_of_getElem? (i := 0) rfl)))), pre246, (by rw [e244]; exact V244), ⟨fun _ => by rw [← hc242]; rfl, fun h => absurd h (by decide)⟩, (One.val rfl), (One.val rfl), own_chm i4, (by unfold Ch; decide), (by unfold Ch; decide), (by unfold Ch; decide), (by unfold Ch; decide), (by unfold Ch; decide), (by unfold Ch; decide), (by unfold Ch; decide), (by unfold Ch; decide), (by unfold Ch; decide)⟩
          · skip
            obtain ⟨cl247, Ar247, qk247, qs247, qn247, qh247, qg247⟩ := id f239
            have hin247 : ¬ ((0 : Int32) < 0 ∨ cl247.slots.size ≤ ((0 : Int32)).toNatClampNeg) := inb_of qs247 ⟨by decide, by decide⟩
            obtain ⟨T248, h248, X248, e248, W248, st248⟩ := stC X93 hx hZ rfl Ar247 (j := (0 : Int32)) hin247 (g := (mkF m 220 #[.val (.int i0), .val (.long j1), .second, .val (.int i3), .val (.int i4), .val (.ref b31), .val (.ref b60), .val (.int ti), .val (.int 0), .val (.int 0), .val (.int (i4 &&& (255 : Int32))), .unset, .unset, .unset, .unset] [(.int (i4 &&& (255 : Int32))), (.int 0), (.ref b60)])) rfl rfl (hb hby at_220)
            have V248 : Arv Z h248 b60 k60 .char (10 : Int32) [(.int ((i4 &&& (255 : Int32)).toUInt32.toUInt16.toUInt32.toInt32)), (.int 114), (.int 111), (.int 106), (.int 101), (.int 99), (.int 116), (.int 95), (.int 105), (.int 100)] (.int 0) := Arv.set Ar247 qk247 qs247 qn247 qh247 qg247 (fits_nar_char _) W248 0 rfl (Nat.le_of_ble_eq_true rfl)
            rw [i2c_mask] at V248
            have N248 := Fr.snoc X248 N93 g_b60
            have K249 := K227.wr W248 (Or.inr sz_b60)
            have O249 := O227.wr W248 g_b60
            have pre250 : ∀ tz_, Steps p.tables e below (T248.setTop (mkF m 221 #[.val (.int i0), .val (.long j1), .second, .val (.int i3), .val (.int i4), .val (.ref b31), .val (.ref b60), .val (.int ti), .val (.int 0), .val (.int 0), .val (.int (i4 &&& (255 : Int32))), .unset, .unset, .unset, .unset] [])) tz_ → Steps p.tables e below (s₁.setTop (entryFrame m #[(.int i0), (.long j1), (.int i3), (.int i4)] maxLocals)) tz_ := fun tz_ kk => pre241 tz_ (by
              show Steps p.tables e below (T93.setTop (mkF m 204 #[.val (.int i0), .val (.long j1), .second, .val (.int i3), .val (.int i4), .val (.ref b31), .val (.ref b60), .val (.int ti), .val (.int 1), .val (.int 0), .val (.int (i4 &&& (255 : Int32))), .unset, .unset, .unset, .unset] [(.int (i4 &&& (255 : Int32))), (.int 112)])) _
              refine XS.icmpYes X93.here hx rfl (pc0 := 204) (pc' := 211) rfl (hb hby at_204) rfl (feq hc242).2 (by decide) (by decide) ?_
              refine XS.iconst X93.here hx rfl (hb hby at_211) ?_
              show Steps p.tables e below (T93.setTop (mkF m 212 #[.val (.int i0), .val (.long j1), .second, .val (.int i3), .val (.int i4), .val (.ref b31), .val (.ref b60), .val (.int ti), .val (.int 1), .val (.int 0), .val (.int (i4 &&& (255 : Int32))), .unset, .unset, .unset, .unset] [(.int 0)])) _
              refine XS.istore X93.here hx rfl (hb hby at_212) rfl (l' := #[.val (.int i0), .val (.long j1), .second, .val (.int i3), .val (.int i4), .val (.ref b31), .val (.ref b60), .val (.int ti), .val (.int 0), .val (.int 0), .val (.int (i4 &&& (255 : Int32))), .unset, .unset, .unset, .unset]) rfl ?_
              refine XS.aload X93.here hx rfl (hb hby at_214) rfl rfl ?_
              refine XS.iload X93.here hx rfl (hb hby at_216) rfl ?_
              refine XS.iload X93.here hx rfl (hb hby at_218) rfl ?_
              show Steps p.tables e below (T93.setTop (mkF m 220 #[.val (.int i0), .val (.long j1), .second, .val (.int i3), .val (.int i4), .val (.ref b31), .val (.ref b60), .val (.int ti), .val (.int 0), .val (.int 0), .val (.int (i4 &&& (255 : Int32))), .unset, .unset, .unset, .unset] [(.int (i4 &&& (255 : Int32))), (.int 0), (.ref b60)])) _
              refine st248 _ ?_
              exact kk)
            exact tail229 ⟨(0 : Int32), (.val (.int 0)), (.val (.int (i4 &&& (255 : Int32)))), (i4 &&& (255 : Int32)), (114 : Int32), (111 : Int32), (106 : Int32), (101 : Int32), (99 : Int32), (116 : Int32), (95 : Int32), (105 : Int32), (100 : Int32), T248, _, X248.more (by decide) (by decide), N248, (by rw [e248]; exact ((Keep.refl T93.heap [b60]).wr W248 (Or.inl (List.mem_of_getElem? (i := 0) rfl)))), pre250, (by rw [e248]; exact V248), ⟨fun h => absurd rfl h, fun _ => ⟨0, _, by decide, rfl, hc242⟩⟩, (One.val rfl), (One.val rfl), own_chm i4, (by unfold Ch; decide), (by unfold Ch; decide), (by unfold Ch; decide), (by unfold Ch; decide), (by unfold Ch; decide), (by unfold Ch; decide), (by unfold Ch; decide), (by unfold Ch; decide), (by unfold Ch; decide)⟩
        · skip
          have pre251 := pre235
          rw [hk236] at pre251
          have ne252 : b60 ≠ b31 := (Ne.symm (Nat.ne_of_lt (Nat.lt_of_lt_of_le V58.lt (Nat.le_of_eq q60.symm))))
          have f253 := (V90.keep Kj93 (ninS ne252 nin0))
          obtain ⟨cl254, Ar254, qk254, qs254, qn254, qh254, qg254⟩ := id f253
          have hin254 : ¬ ((1 : Int32) < 0 ∨ cl254.slots.size ≤ ((1 : Int32)).toNatClampNeg) := inb_of qs254 ⟨by decide, by decide⟩
          have hat254 : cl254.slots[((1 : Int32)).toNatClampNeg]? = some (.int 114) := qh254.at hin254 rfl
          have pre255 : ∀ tz_, Steps p.tables e below (T93.setTop (mkF m 204 #[.val (.int i0), .val (.long j1), .second, .val (.int i3), .val (.int i4), .val (.ref b31), .val (.ref b60), .val (.int ti), .val (.int 1), .val (.int 1), .val (.int (i4 &&& (255 : Int32))), .unset, .unset, .unset, .unset] [(.int (i4 &&& (255 : Int32))), (.int 114)])) tz_ → Steps p.tables e below (s₁.setTop (entryFrame m #[(.int i0), (.long j1), (.int i3), (.int i4)] maxLocals)) tz_ := fun tz_ kk => pre251 tz_ (by
            show Steps p.tables e below (T93.setTop (mkF m 197 #[.val (.int i0), .val (.long j1), .second, .val (.int i3), .val (.int i4), .val (.ref b31), .val (.ref b60), .val (.int ti), .val (.int 1), .val (.int 1), .val (.int (i4 &&& (255 : Int32))), .unset, .unset, .unset, .unset] [])) _
            refine XS.aload X93.here hx rfl (hb hby at_197) rfl rfl ?_
            refine XS.iload X93.here hx rfl (hb hby at_199) rfl ?_
            show Steps p.tables e below (T93.setTop (mkF m 201 #[.val (.int i0), .val (.long j1), .second, .val (.int i3), .val (.int i4), .val (.ref b31), .val (.ref b60), .val (.int ti), .val (.int 1), .val (.int 1), .val (.int (i4 &&& (255 : Int32))), .unset, .unset, .unset, .unset] [(.int 1), (.ref b60)])) _
            refine X93.caload hx (j := (1 : Int32)) (v := (.int 114)) Ar254.1 (State.isArrayOf_alike hZ.alike Ar254.2.1) Ar254.2.2 hin254 hat254 (g := (mkF m 201 #[.val (.int i0), .val (.long j1), .second, .val (.int i3), .val (.int i4), .val (.ref b31), .val (.ref b60), .val (.int ti), .val (.int 1), .val (.int 1), .val (.int (i4 &&& (255 : Int32))), .unset, .unset, .unset, .unset] [(.int 1), (.ref b60)])) rfl rfl (hb hby at_201) _ ?_
            show Steps p.tables e below (T93.setTop (mkF m 202 #[.val (.int i0), .val (.long j1), .second, .val (.int i3), .val (.int i4), .val (.ref b31), .val (.ref b60), .val (.int ti), .val (.int 1), .val (.int 1), .val (.int (i4 &&& (255 : Int32))), .unset, .unset, .unset, .unset] [(.int 114)])) _
            refine XS.iload X93.here hx rfl (hb hby at_202) rfl ?_
            exact kk)
          by_cases hc256 : (114 : Int32) = (i4 &&& (255 : Int32))
          · skip
            obtain ⟨cl257, Ar257, qk257, qs257, qn257, qh257, qg257⟩ := id f253
            have hin257 : ¬ ((1 : Int32) < 0 ∨ cl257.slots.size ≤ ((1 : Int32)).toNatClampNeg) := inb_of qs257 ⟨by decide, by decide⟩
            obtain ⟨T258, h258, X258, e258, W258, st258⟩ := stC X93 hx hZ rfl Ar257 (j := (1 : Int32)) hin257 (g := (mkF m 220 #[.val (.int i0), .val (.long j1), .second, .val (.int i3), .val (.int i4), .val (.ref b31), .val (.ref b60), .val (.int ti), .val (.int 1), .val (.int 1), .val (.int (i4 &&& (255 : Int32))), .unset, .unset, .unset, .unset] [(.int (i4 &&& (255 : Int32))), (.int 1), (.ref b60)])) rfl rfl (hb hby at_220)
            have V258 : Arv Z h258 b60 k60 .char (10 : Int32) [(.int 112), (.int ((i4 &&& (255 : Int32)).toUInt32.toUInt16.toUInt32.toInt32)), (.int 111), (.int 106), (.int 101), (.int 99), (.int 116), (.int 95), (.int 105), (.int 100)] (.int 0) := Arv.set Ar257 qk257 qs257 qn257 qh257 qg257 (fits_nar_char _) W258 1 rfl (Nat.le_of_ble_eq_true rfl)
            rw [i2c_mask] at V258
            have N258 := Fr.snoc X258 N93 g_b60
            have K259 := K227.wr W258 (Or.inr sz_b60)
            have O259 := O227.wr W258 g_b60
            have pre260 : ∀ tz_, Steps p.tables e below (T258.setTop (mkF m 221 #[.val (.int i0), .val (.long j1), .second, .val (.int i3), .val (.int i4), .val (.ref b31), .val (.ref b60), .val (.int ti), .val (.int 1), .val (.int 1), .val (.int (i4 &&& (255 : Int32))), .unset, .unset, .unset, .unset] [])) tz_ → Steps p.tables e below (s₁.setTop (entryFrame m #[(.int i0), (.long j1), (.int i3), (.int i4)] maxLocals)) tz_ := fun tz_ kk => pre255 tz_ (by
              show Steps p.tables e below (T93.setTop (mkF m 204 #[.val (.int i0), .val (.long j1), .second, .val (.int i3), .val (.int i4), .val (.ref b31), .val (.ref b60), .val (.int ti), .val (.int 1), .val (.int 1), .val (.int (i4 &&& (255 : Int32))), .unset, .unset, .unset, .unset] [(.int (i4 &&& (255 : Int32))), (.int 114)])) _
              refine XS.icmpNo X93.here hx rfl (hb hby at_204) rfl (teq hc256).2 ?_
              refine XS.iconst X93.here hx rfl (hb hby at_207) ?_
              refine XS.goto X93.here hx rfl (pc0 := 208) (pc' := 212) rfl (hb hby at_208) (by decide) (by decide) ?_
              show Steps p.tables e below (T93.setTop (mkF m 212 #[.val (.int i0), .val (.long j1), .second, .val (.int i3), .val (.int i4), .val (.ref b31), .val (.ref b60), .val (.int ti), .val (.int 1), .val (.int 1), .val (.int (i4 &&& (255 : Int32))), .unset, .unset, .unset, .unset] [(.int 1)])) _
              refine XS.istore X93.here hx rfl (hb hby at_212) rfl (l' := #[.val (.int i0), .val (.long j1), .second, .val (.int i3), .val (.int i4), .val (.ref b31), .val (.ref b60), .val (.int ti), .val (.int 1), .val (.int 1), .val (.int (i4 &&& (255 : Int32))), .unset, .unset, .unset, .unset]) rfl ?_
              refine XS.aload X93.here hx rfl (hb hby at_214) rfl rfl ?_
              refine XS.iload X93.here hx rfl (hb hby at_216) rfl ?_
              refine XS.iload X93.here hx rfl (hb hby at_218) rfl ?_
              show Steps p.tables e below (T93.setTop (mkF m 220 #[.val (.int i0), .val (.long j1), .second, .val (.int i3), .val (.int i4), .val (.ref b31), .val (.ref b60), .val (.int ti), .val (.int 1), .val (.int 1), .val (.int (i4 &&& (255 : Int32))), .unset, .unset, .unset, .unset] [(.int (i4 &&& (255 : Int32))), (.int 1), (.ref b60)])) _
              refine st258 _ ?_
              exact kk)
            exact tail229 ⟨(1 : Int32), (.val (.int 1)), (.val (.int (i4 &&& (255 : Int32)))), (112 : Int32), (i4 &&& (255 : Int32)), (111 : Int32), (106 : Int32), (101 : Int32), (99 : Int32), (116 : Int32), (95 : Int32), (105 : Int32), (100 : Int32), T258, _, X258.more (by decide) (by decide), N258, (by rw [e258]; exact ((Keep.refl T93.heap [b60]).wr W258 (Or.inl (List.mem_of_getElem? (i := 0) rfl)))), pre260, (by rw [e258]; exact V258), ⟨fun _ => by rw [← hc256]; rfl, fun h => absurd h (by decide)⟩, (One.val rfl), (One.val rfl), (by unfold Ch; decide), own_chm i4, (by unfold Ch; decide), (by unfold Ch; decide), (by unfold Ch; decide), (by unfold Ch; decide), (by unfold Ch; decide), (by unfold Ch; decide), (by unfold Ch; decide), (by unfold Ch; decide)⟩
          · skip
            obtain ⟨cl261, Ar261, qk261, qs261, qn261, qh261, qg261⟩ := id f253
            have hin261 : ¬ ((1 : Int32) < 0 ∨ cl261.slots.size ≤ ((1 : Int32)).toNatClampNeg) := inb_of qs261 ⟨by decide, by decide⟩
            obtain ⟨T262, h262, X262, e262, W262, st262⟩ := stC X93 hx hZ rfl Ar261 (j := (1 : Int32)) hin261 (g := (mkF m 220 #[.val (.int i0), .val (.long j1), .second, .val (.int i3), .val (.int i4), .val (.ref b31), .val (.ref b60), .val (.int ti), .val (.int 0), .val (.int 1), .val (.int (i4 &&& (255 : Int32))), .unset, .unset, .unset, .unset] [(.int (i4 &&& (255 : Int32))), (.int 1), (.ref b60)])) rfl rfl (hb hby at_220)
            have V262 : Arv Z h262 b60 k60 .char (10 : Int32) [(.int 112), (.int ((i4 &&& (255 : Int32)).toUInt32.toUInt16.toUInt32.toInt32)), (.int 111), (.int 106), (.int 101), (.int 99), (.int 116), (.int 95), (.int 105), (.int 100)] (.int 0) := Arv.set Ar261 qk261 qs261 qn261 qh261 qg261 (fits_nar_char _) W262 1 rfl (Nat.le_of_ble_eq_true rfl)
            rw [i2c_mask] at V262
            have N262 := Fr.snoc X262 N93 g_b60
            have K263 := K227.wr W262 (Or.inr sz_b60)
            have O263 := O227.wr W262 g_b60
            have pre264 : ∀ tz_, Steps p.tables e below (T262.setTop (mkF m 221 #[.val (.int i0), .val (.long j1), .second, .val (.int i3), .val (.int i4), .val (.ref b31), .val (.ref b60), .val (.int ti), .val (.int 0), .val (.int 1), .val (.int (i4 &&& (255 : Int32))), .unset, .unset, .unset, .unset] [])) tz_ → Steps p.tables e below (s₁.setTop (entryFrame m #[(.int i0), (.long j1), (.int i3), (.int i4)] maxLocals)) tz_ := fun tz_ kk => pre255 tz_ (by
              show Steps p.tables e below (T93.setTop (mkF m 204 #[.val (.int i0), .val (.long j1), .second, .val (.int i3), .val (.int i4), .val (.ref b31), .val (.ref b60), .val (.int ti), .val (.int 1), .val (.int 1), .val (.int (i4 &&& (255 : Int32))), .unset, .unset, .unset, .unset] [(.int (i4 &&& (255 : Int32))), (.int 114)])) _
              refine XS.icmpYes X93.here hx rfl (pc0 := 204) (pc' := 211) rfl (hb hby at_204) rfl (feq hc256).2 (by decide) (by decide) ?_
              refine XS.iconst X93.here hx rfl (hb hby at_211) ?_
              refine XS.istore X93.here hx rfl (hb hby at_212) rfl (l' := #[.val (.int i0), .val (.long j1), .second, .val (.int i3), .val (.int i4), .val (.ref b31), .val (.ref b60), .val (.int ti), .val (.int 0), .val (.int 1), .val (.int (i4 &&& (255 : Int32))), .unset, .unset, .unset, .unset]) rfl ?_
              refine XS.aload X93.here hx rfl (hb hby at_214) rfl rfl ?_
              show Steps p.tables e below (T93.setTop (mkF m 216 #[.val (.int i0), .val (.long j1), .second, .val (.int i3), .val (.int i4), .val (.ref b31), .val (.ref b60), .val (.int ti), .val (.int 0), .val (.int 1), .val (.int (i4 &&& (255 : Int32))), .unset, .unset, .unset, .unset] [(.ref b60)])) _
              refine XS.iload X93.here hx rfl (hb hby at_216) rfl ?_
              refine XS.iload X93.here hx rfl (hb hby at_218) rfl ?_
              show Steps p.tables e below (T93.setTop (mkF m 220 #[.val (.int i0), .val (.long j1), .second, .val (.int i3), .val (.int i4), .val (.ref b31), .val (.ref b60), .val (.int ti), .val (.int 0), .val (.int 1), .val (.int (i4 &&& (255 : Int32))), .unset, .unset, .unset, .unset] [(.int (i4 &&& (255 : Int32))), (.int 1), (.ref b60)])) _
              refine st262 _ ?_
              exact kk)
            exact tail229 ⟨(0 : Int32), (.val (.int 1)), (.val (.int (i4 &&& (255 : Int32)))), (112 : Int32), (i4 &&& (255 : Int32)), (111 : Int32), (106 : Int32), (101 : Int32), (99 : Int32), (116 : Int32), (95 : Int32), (105 : Int32), (100 : Int32), T262, _, X262.more (by decide) (by decide), N262, (by rw [e262]; exact ((Keep.refl T93.heap [b60]).wr W262 (Or.inl (List.mem_of_getElem? (i := 0) rfl)))), pre264, (by rw [e262]; exact V262), ⟨fun h => absurd rfl h, fun _ => ⟨1, _, by decide, rfl, hc256⟩⟩, (One.val rfl), (One.val rfl), (by unfold Ch; decide), own_chm i4, (by unfold Ch; decide), (by unfold Ch; decide), (by unfold Ch; decide), (by unfold Ch; decide), (by unfold Ch; decide), (by unfold Ch; decide), (by unfold Ch; decide), (by unfold Ch; decide)⟩
        · skip
          have pre265 := pre235
          rw [hk236] at pre265
          have ne266 : b60 ≠ b31 := (Ne.symm (Nat.ne_of_lt (Nat.lt_of_lt_of_le V58.lt (Nat.le_of_eq q60.symm))))
          have f267 := (V90.keep Kj93 (ninS ne266 nin0))
          obtain ⟨cl268, Ar268, qk268, qs268, qn268, qh268, qg268⟩ := id f267
          have hin268 : ¬ ((2 : Int32) < 0 ∨ cl268.slots.size ≤ ((2 : Int32)).toNatClampNeg) := inb_of qs268 ⟨by decide, by decide⟩
          have hat268 : cl268.slots[((2 : Int32)).toNatClampNeg]? = some (.int 111) := qh268.at hin268 rfl
          have pre269 : ∀ tz_, Steps p.tables e below (T93.setTop (mkF m 204 #[.val (.int i0), .val (.long j1), .second, .val (.int i3), .val (.int i4), .val (.ref b31), .val (.ref b60), .val (.int ti), .val (.int 1), .val (.int 2), .val (.int (i4 &&& (255 : Int32))), .unset, .unset, .unset, .unset] [(.int (i4 &&& (255 : Int32))), (.int 111)])) tz_ → Steps p.tables e below (s₁.setTop (entryFrame m #[(.int i0), (.long j1), (.int i3), (.int i4)] maxLocals)) tz_ := fun tz_ kk => pre265 tz_ (by
            show Steps p.tables e below (T93.setTop (mkF m 197 #[.val (.int i0), .val (.long j1), .second, .val (.int i3), .val (.int i4), .val (.ref b31), .val (.ref b60), .val (.int ti), .val (.int 1), .val (.int 2), .val (.int (i4 &&& (255 : Int32))), .unset, .unset, .unset, .unset] [])) _
            refine XS.aload X93.here hx rfl (hb hby at_197) rfl rfl ?_
            show Steps p.tables e below (T93.setTop (mkF m 199 #[.val (.int i0), .val (.long j1), .second, .val (.int i3), .val (.int i4), .val (.ref b31), .val (.ref b60), .val (.int ti), .val (.int 1), .val (.int 2), .val (.int (i4 &&& (255 : Int32))), .unset, .unset, .unset, .unset] [(.ref b60)])) _
            refine XS.iload X93.here hx rfl (hb hby at_199) rfl ?_
            show Steps p.tables e below (T93.setTop (mkF m 201 #[.val (.int i0), .val (.long j1), .second, .val (.int i3), .val (.int i4), .val (.ref b31), .val (.ref b60), .val (.int ti), .val (.int 1), .val (.int 2), .val (.int (i4 &&& (255 : Int32))), .unset, .unset, .unset, .unset] [(.int 2), (.ref b60)])) _
            refine X93.caload hx (j := (2 : Int32)) (v := (.int 111)) Ar268.1 (State.isArrayOf_alike hZ.alike Ar268.2.1) Ar268.2.2 hin268 hat268 (g := (mkF m 201 #[.val (.int i0), .val (.long j1), .second, .val (.int i3), .val (.int i4), .val (.ref b31), .val (.ref b60), .val (.int ti), .val (.int 1), .val (.int 2), .val (.int (i4 &&& (255 : Int32))), .unset, .unset, .unset, .unset] [(.int 2), (.ref b60)])) rfl rfl (hb hby at_201) _ ?_
            refine XS.iload X93.here hx rfl (hb hby at_202) rfl ?_
            exact kk)
          by_cases hc270 : (111 : Int32) = (i4 &&& (255 : Int32))
          · skip
            obtain ⟨cl271, Ar271, qk271, qs271, qn271, qh271, qg271⟩ := id f267
            have hin271 : ¬ ((2 : Int32) < 0 ∨ cl271.slots.size ≤ ((2 : Int32)).toNatClampNeg) := inb_of qs271 ⟨by decide, by decide⟩
            obtain ⟨T272, h272, X272, e272, W272, st272⟩ := stC X93 hx hZ rfl Ar271 (j := (2 : Int32)) hin271 (g := (mkF m 220 #[.val (.int i0), .val (.long j1), .second, .val (.int i3), .val (.int i4), .val (.ref b31), .val (.ref b60), .val (.int ti), .val (.int 1), .val (.int 2), .val (.int (i4 &&& (255 : Int32))), .unset, .unset, .unset, .unset] [(.int (i4 &&& (255 : Int32))), (.int 2), (.ref b60)])) rfl rfl (hb hby at_220)
            have V272 : Arv Z h272 b60 k60 .char (10 : Int32) [(.int 112), (.int 114), (.int ((i4 &&& (255 : Int32)).toUInt32.toUInt16.toUInt32.toInt32)), (.int 106), (.int 101), (.int 99), (.int 116), (.int 95), (.int 105), (.int 100)] (.int 0) := Arv.set Ar271 qk271 qs271 qn271 qh271 qg271 (fits_nar_char _) W272 2 rfl (Nat.le_of_ble_eq_true rfl)
            rw [i2c_mask] at V272
            have N272 := Fr.snoc X272 N93 g_b60
            have K273 := K227.wr W272 (Or.inr sz_b60)
            have O273 := O227.wr W272 g_b60
            have pre274 : ∀ tz_, Steps p.tables e below (T272.setTop (mkF m 221 #[.val (.int i0), .val (.long j1), .second, .val (.int i3), .val (.int i4), .val (.ref b31), .val (.ref b60), .val (.int ti), .val (.int 1), .val (.int 2), .val (.int (i4 &&& (255 : Int32))), .unset, .unset, .unset, .unset] [])) tz_ → Steps p.tables e below (s₁.setTop (entryFrame m #[(.int i0), (.long j1), (.int i3), (.int i4)] maxLocals)) tz_ := fun tz_ kk => pre269 tz_ (by
              show Steps p.tables e below (T93.setTop (mkF m 204 #[.val (.int i0), .val (.long j1), .second, .val (.int i3), .val (.int i4), .val (.ref b31), .val (.ref b60), .val (.int ti), .val (.int 1), .val (.int 2), .val (.int (i4 &&& (255 : Int32))), .unset, .unset, .unset, .unset] [(.int (i4 &&& (255 : Int32))), (.int 111)])) _
              refine XS.icmpNo X93.here hx rfl (hb hby at_204) rfl (teq hc270).2 ?_
              show Steps p.tables e below (T93.setTop (mkF m 207 #[.val (.int i0), .val (.long j1), .second, .val (.int i3), .val (.int i4), .val (.ref b31), .val (.ref b60), .val (.int ti), .val (.int 1), .val (.int 2), .val (.int (i4 &&& (255 : Int32))), .unset, .unset, .unset, .unset] [])) _
              refine XS.iconst X93.here hx rfl (hb hby at_207) ?_
              refine XS.goto X93.here hx rfl (pc0 := 208) (pc' := 212) rfl (hb hby at_208) (by decide) (by decide) ?_
              refine XS.istore X93.here hx rfl (hb hby at_212) rfl (l' := #[.val (.int i0), .val (.long j1), .second, .val (.int i3), .val (.int i4), .val (.ref b31), .val (.ref b60), .val (.int ti), .val (.int 1), .val (.int 2), .val (.int (i4 &&& (255 : Int32))), .unset, .unset, .unset, .unset]) rfl ?_
              refine XS.aload X93.here hx rfl (hb hby at_214) rfl rfl ?_
              show Steps p.tables e below (T93.setTop (mkF m 216 #[.val (.int i0), .val (.long j1), .second, .val (.int i3), .val (.int i4), .val (.ref b31), .val (.ref b60), .val (.int ti), .val (.int 1), .val (.int 2), .val (.int (i4 &&& (255 : Int32))), .unset, .unset, .unset, .unset] [(.ref b60)])) _
              refine XS.iload X93.here hx rfl (hb hby at_216) rfl ?_
              refine XS.iload X93.here hx rfl (hb hby at_218) rfl ?_
              show Steps p.tables e below (T93.setTop (mkF m 220 #[.val (.int i0), .val (.long j1), .second, .val (.int i3), .val (.int i4), .val (.ref b31), .val (.ref b60), .val (.int ti), .val (.int 1), .val (.int 2), .val (.int (i4 &&& (255 : Int32))), .unset, .unset, .unset, .unset] [(.int (i4 &&& (255 : Int32))), (.int 2), (.ref b60)])) _
              refine st272 _ ?_
              exact kk)
            exact tail229 ⟨(1 : Int32), (.val (.int 2)), (.val (.int (i4 &&& (255 : Int32)))), (112 : Int32), (114 : Int32), (i4 &&& (255 : Int32)), (106 : Int32), (101 : Int32), (99 : Int32), (116 : Int32), (95 : Int32), (105 : Int32), (100 : Int32), T272, _, X272.more (by decide) (by decide), N272, (by rw [e272]; exact ((Keep.refl T93.heap [b60]).wr W272 (Or.inl (List.mem_of_getElem? (i := 0) rfl)))), pre274, (by rw [e272]; exact V272), ⟨fun _ => by rw [← hc270]; rfl, fun h => absurd h (by decide)⟩, (One.val rfl), (One.val rfl), (by unfold Ch; decide), (by unfold Ch; decide), own_chm i4, (by unfold Ch; decide), (by unfold Ch; decide), (by unfold Ch; decide), (by unfold Ch; decide), (by unfold Ch; decide), (by unfold Ch; decide), (by unfold Ch; decide)⟩
          · skip
            obtain ⟨cl275, Ar275, qk275, qs275, qn275, qh275, qg275⟩ := id f267
            have hin275 : ¬ ((2 : Int32) < 0 ∨ cl275.slots.size ≤ ((2 : Int32)).toNatClampNeg) := inb_of qs275 ⟨by decide, by decide⟩
            obtain ⟨T276, h276, X276, e276, W276, st276⟩ := stC X93 hx hZ rfl Ar275 (j := (2 : Int32)) hin275 (g := (mkF m 220 #[.val (.int i0), .val (.long j1), .second, .val (.int i3), .val (.int i4), .val (.ref b31), .val (.ref b60), .val (.int ti), .val (.int 0), .val (.int 2), .val (.int (i4 &&& (255 : Int32))), .unset, .unset, .unset, .unset] [(.int (i4 &&& (255 : Int32))), (.int 2), (.ref b60)])) rfl rfl (hb hby at_220)
            have V276 : Arv Z h276 b60 k60 .char (10 : Int32) [(.int 112), (.int 114), (.int ((i4 &&& (255 : Int32)).toUInt32.toUInt16.toUInt32.toInt32)), (.int 106), (.int 101), (.int 99), (.int 116), (.int 95), (.int 105), (.int 100)] (.int 0) := Arv.set Ar275 qk275 qs275 qn275 qh275 qg275 (fits_nar_char _) W276 2 rfl (Nat.le_of_ble_eq_true rfl)
            rw [i2c_mask] at V276
            have N276 := Fr.snoc X276 N93 g_b60
            have K277 := K227.wr W276 (Or.inr sz_b60)
            have O277 := O227.wr W276 g_b60
            have pre278 : ∀ tz_, Steps p.tables e below (T276.setTop (mkF m 221 #[.val (.int i0), .val (.long j1), .second, .val (.int i3), .val (.int i4), .val (.ref b31), .val (.ref b60), .val (.int ti), .val (.int 0), .val (.int 2), .val (.int (i4 &&& (255 : Int32))), .unset, .unset, .unset, .unset] [])) tz_ → Steps p.tables e below (s₁.setTop (entryFrame m #[(.int i0), (.long j1), (.int i3), (.int i4)] maxLocals)) tz_ := fun tz_ kk => pre269 tz_ (by
              show Steps p.tables e below (T93.setTop (mkF m 204 #[.val (.int i0), .val (.long j1), .second, .val (.int i3), .val (.int i4), .val (.ref b31), .val (.ref b60), .val (.int ti), .val (.int 1), .val (.int 2), .val (.int (i4 &&& (255 : Int32))), .unset, .unset, .unset, .unset] [(.int (i4 &&& (255 : Int32))), (.int 111)])) _
              refine XS.icmpYes X93.here hx rfl (pc0 := 204) (pc' := 211) rfl (hb hby at_204) rfl (feq hc270).2 (by decide) (by decide) ?_
              refine XS.iconst X93.here hx rfl (hb hby at_211) ?_
              show Steps p.tables e below (T93.setTop (mkF m 212 #[.val (.int i0), .val (.long j1), .second, .val (.int i3), .val (.int i4), .val (.ref b31), .val (.ref b60), .val (.int ti), .val (.int 1), .val (.int 2), .val (.int (i4 &&& (255 : Int32))), .unset, .unset, .unset, .unset] [(.int 0)])) _
              refine XS.istore X93.here hx rfl (hb hby at_212) rfl (l' := #[.val (.int i0), .val (.long j1), .second, .val (.int i3), .val (.int i4), .val (.ref b31), .val (.ref b60), .val (.int ti), .val (.int 0), .val (.int 2), .val (.int (i4 &&& (255 : Int32))), .unset, .unset, .unset, .unset]) rfl ?_
              refine XS.aload X93.here hx rfl (hb hby at_214) rfl rfl ?_
              refine XS.iload X93.here hx rfl (hb hby at_216) rfl ?_
              refine XS.iload X93.here hx rfl (hb hby at_218) rfl ?_
              show Steps p.tables e below (T93.setTop (mkF m 220 #[.val (.int i0), .val (.long j1), .second, .val (.int i3), .val (.int i4), .val (.ref b31), .val (.ref b60), .val (.int ti), .val (.int 0), .val (.int 2), .val (.int (i4 &&& (255 : Int32))), .unset, .unset, .unset, .unset] [(.int (i4 &&& (255 : Int32))), (.int 2), (.ref b60)])) _
              refine st276 _ ?_
              exact kk)
            exact tail229 ⟨(0 : Int32), (.val (.int 2)), (.val (.int (i4 &&& (255 : Int32)))), (112 : Int32), (114 : Int32), (i4 &&& (255 : Int32)), (106 : Int32), (101 : Int32), (99 : Int32), (116 : Int32), (95 : Int32), (105 : Int32), (100 : Int32), T276, _, X276.more (by decide) (by decide), N276, (by rw [e276]; exact ((Keep.refl T93.heap [b60]).wr W276 (Or.inl (List.mem_of_getElem? (i := 0) rfl)))), pre278, (by rw [e276]; exact V276), ⟨fun h => absurd rfl h, fun _ => ⟨2, _, by decide, rfl, hc270⟩⟩, (One.val rfl), (One.val rfl), (by unfold Ch; decide), (by unfold Ch; decide), own_chm i4, (by unfold Ch; decide), (by unfold Ch; decide), (by unfold Ch; decide), (by unfold Ch; decide), (by unfold Ch; decide), (by unfold Ch; decide), (by unfold Ch; decide)⟩
        · skip
          have pre279 := pre235
          rw [hk236] at pre279
          have ne280 : b60 ≠ b31 := (Ne.symm (Nat.ne_of_lt (Nat.lt_of_lt_of_le V58.lt (Nat.le_of_eq q60.symm))))
          have f281 := (V90.keep Kj93 (ninS ne280 nin0))
          obtain ⟨cl282, Ar282, qk282, qs282, qn282, qh282, qg282⟩ := id f281
          have hin282 : ¬ ((3 : Int32) < 0 ∨ cl282.slots.size ≤ ((3 : Int32)).toNatClampNeg) := inb_of qs282 ⟨by decide, by decide⟩
          have hat282 : cl282.slots[((3 : Int32)).toNatClampNeg]? = some (.int 106) := qh282.at hin282 rfl
          have pre283 : ∀ tz_, Steps p.tables e below (T93.setTop (mkF m 204 #[.val (.int i0), .val (.long j1), .second, .val (.int i3), .val (.int i4), .val (.ref b31), .val (.ref b60), .val (.int ti), .val (.int 1), .val (.int 3), .val (.int (i4 &&& (255 : Int32))), .unset, .unset, .unset, .unset] [(.int (i4 &&& (255 : Int32))), (.int 106)])) tz_ → Steps p.tables e below (s₁.setTop (entryFrame m #[(.int i0), (.long j1), (.int i3), (.int i4)] maxLocals)) tz_ := fun tz_ kk => pre279 tz_ (by
            show Steps p.tables e below (T93.setTop (mkF m 197 #[.val (.int i0), .val (.long j1), .second, .val (.int i3), .val (.int i4), .val (.ref b31), .val (.ref b60), .val (.int ti), .val (.int 1), .val (.int 3), .val (.int (i4 &&& (255 : Int32))), .unset, .unset, .unset, .unset] [])) _
            refine XS.aload X93.here hx rfl (hb hby at_197) rfl rfl ?_
            refine XS.iload X93.here hx rfl (hb hby at_199) rfl ?_
            show Steps p.tables e below (T93.setTop (mkF m 201 #[.val (.int i0), .val (.long j1), .second, .val (.int i3), .val (.int i4), .val (.ref b31), .val (.ref b60), .val (.int ti), .val (.int 1), .val (.int 3), .val (.int (i4 &&& (255 : Int32))), .unset, .unset, .unset, .unset] [(.int 3), (.ref b60)])) _
            refine X93.caload hx (j := (3 : Int32)) (v := (.int 106)) Ar282.1 (State.isArrayOf_alike hZ.alike Ar282.2.1) Ar282.2.2 hin282 hat282 (g := (mkF m 201 #[.val (.int i0), .val (.long j1), .second, .val (.int i3), .val (.int i4), .val (.ref b31), .val (.ref b60), .val (.int ti), .val (.int 1), .val (.int 3), .val (.int (i4 &&& (255 : Int32))), .unset, .unset, .unset, .unset] [(.int 3), (.ref b60)])) rfl rfl (hb hby at_201) _ ?_
            show Steps p.tables e below (T93.setTop (mkF m 202 #[.val (.int i0), .val (.long j1), .second, .val (.int i3), .val (.int i4), .val (.ref b31), .val (.ref b60), .val (.int ti), .val (.int 1), .val (.int 3), .val (.int (i4 &&& (255 : Int32))), .unset, .unset, .unset, .unset] [(.int 106)])) _
            refine XS.iload X93.here hx rfl (hb hby at_202) rfl ?_
            exact kk)
          by_cases hc284 : (106 : Int32) = (i4 &&& (255 : Int32))
          · skip
            obtain ⟨cl285, Ar285, qk285, qs285, qn285, qh285, qg285⟩ := id f281
            have hin285 : ¬ ((3 : Int32) < 0 ∨ cl285.slots.size ≤ ((3 : Int32)).toNatClampNeg) := inb_of qs285 ⟨by decide, by decide⟩
            obtain ⟨T286, h286, X286, e286, W286, st286⟩ := stC X93 hx hZ rfl Ar285 (j := (3 : Int32)) hin285 (g := (mkF m 220 #[.val (.int i0), .val (.long j1), .second, .val (.int i3), .val (.int i4), .val (.ref b31), .val (.ref b60), .val (.int ti), .val (.int 1), .val (.int 3), .val (.int (i4 &&& (255 : Int32))), .unset, .unset, .unset, .unset] [(.int (i4 &&& (255 : Int32))), (.int 3), (.ref b60)])) rfl rfl (hb hby at_220)
            have V286 : Arv Z h286 b60 k60 .char (10 : Int32) [(.int 112), (.int 114), (.int 111), (.int ((i4 &&& (255 : Int32)).toUInt32.toUInt16.toUInt32.toInt32)), (.int 101), (.int 99), (.int 116), (.int 95), (.int 105), (.int 100)] (.int 0) := Arv.set Ar285 qk285 qs285 qn285 qh285 qg285 (fits_nar_char _) W286 3 rfl (Nat.le_of_ble_eq_true rfl)
            rw [i2c_mask] at V286
            have N286 := Fr.snoc X286 N93 g_b60
            have K287 := K227.wr W286 (Or.inr sz_b60)
            have O287 := O227.wr W286 g_b60
            have pre288 : ∀ tz_, Steps p.tables e below (T286.setTop (mkF m 221 #[.val (.int i0), .val (.long j1), .second, .val (.int i3), .val (.int i4), .val (.ref b31), .val (.ref b60), .val (.int ti), .val (.int 1), .val (.int 3), .val (.int (i4 &&& (255 : Int32))), .unset, .unset, .unset, .unset] [])) tz_ → Steps p.tables e below (s₁.setTop (entryFrame m #[(.int i0), (.long j1), (.int i3), (.int i4)] maxLocals)) tz_ := fun tz_ kk => pre283 tz_ (by
              show Steps p.tables e below (T93.setTop (mkF m 204 #[.val (.int i0), .val (.long j1), .second, .val (.int i3), .val (.int i4), .val (.ref b31), .val (.ref b60), .val (.int ti), .val (.int 1), .val (.int 3), .val (.int (i4 &&& (255 : Int32))), .unset, .unset, .unset, .unset] [(.int (i4 &&& (255 : Int32))), (.int 106)])) _
              refine XS.icmpNo X93.here hx rfl (hb hby at_204) rfl (teq hc284).2 ?_
              refine XS.iconst X93.here hx rfl (hb hby at_207) ?_
              refine XS.goto X93.here hx rfl (pc0 := 208) (pc' := 212) rfl (hb hby at_208) (by decide) (by decide) ?_
              show Steps p.tables e below (T93.setTop (mkF m 212 #[.val (.int i0), .val (.long j1), .second, .val (.int i3), .val (.int i4), .val (.ref b31), .val (.ref b60), .val (.int ti), .val (.int 1), .val (.int 3), .val (.int (i4 &&& (255 : Int32))), .unset, .unset, .unset, .unset] [(.int 1)])) _
              refine XS.istore X93.here hx rfl (hb hby at_212) rfl (l' := #[.val (.int i0), .val (.long j1), .second, .val (.int i3), .val (.int i4), .val (.ref b31), .val (.ref b60), .val (.int ti), .val (.int 1), .val (.int 3), .val (.int (i4 &&& (255 : Int32))), .unset, .unset, .unset, .unset]) rfl ?_
              refine XS.aload X93.here hx rfl (hb hby at_214) rfl rfl ?_
              refine XS.iload X93.here hx rfl (hb hby at_216) rfl ?_
              refine XS.iload X93.here hx rfl (hb hby at_218) rfl ?_
              show Steps p.tables e below (T93.setTop (mkF m 220 #[.val (.int i0), .val (.long j1), .second, .val (.int i3), .val (.int i4), .val (.ref b31), .val (.ref b60), .val (.int ti), .val (.int 1), .val (.int 3), .val (.int (i4 &&& (255 : Int32))), .unset, .unset, .unset, .unset] [(.int (i4 &&& (255 : Int32))), (.int 3), (.ref b60)])) _
              refine st286 _ ?_
              exact kk)
            exact tail229 ⟨(1 : Int32), (.val (.int 3)), (.val (.int (i4 &&& (255 : Int32)))), (112 : Int32), (114 : Int32), (111 : Int32), (i4 &&& (255 : Int32)), (101 : Int32), (99 : Int32), (116 : Int32), (95 : Int32), (105 : Int32), (100 : Int32), T286, _, X286.more (by decide) (by decide), N286, (by rw [e286]; exact ((Keep.refl T93.heap [b60]).wr W286 (Or.inl (List.mem_of_getElem? (i := 0) rfl)))), pre288, (by rw [e286]; exact V286), ⟨fun _ => by rw [← hc284]; rfl, fun h => absurd h (by decide)⟩, (One.val rfl), (One.val rfl), (by unfold Ch; decide), (by unfold Ch; decide), (by unfold Ch; decide), own_chm i4, (by unfold Ch; decide), (by unfold Ch; decide), (by unfold Ch; decide), (by unfold Ch; decide), (by unfold Ch; decide), (by unfold Ch; decide)⟩
          · skip
            obtain ⟨cl289, Ar289, qk289, qs289, qn289, qh289, qg289⟩ := id f281
            have hin289 : ¬ ((3 : Int32) < 0 ∨ cl289.slots.size ≤ ((3 : Int32)).toNatClampNeg) := inb_of qs289 ⟨by decide, by decide⟩
            obtain ⟨T290, h290, X290, e290, W290, st290⟩ := stC X93 hx hZ rfl Ar289 (j := (3 : Int32)) hin289 (g := (mkF m 220 #[.val (.int i0), .val (.long j1), .second, .val (.int i3), .val (.int i4), .val (.ref b31), .val (.ref b60), .val (.int ti), .val (.int 0), .val (.int 3), .val (.int (i4 &&& (255 : Int32))), .unset, .unset, .unset, .unset] [(.int (i4 &&& (255 : Int32))), (.int 3), (.ref b60)])) rfl rfl (hb hby at_220)
            have V290 : Arv Z h290 b60 k60 .char (10 : Int32) [(.int 112), (.int 114), (.int 111), (.int ((i4 &&& (255 : Int32)).toUInt32.toUInt16.toUInt32.toInt32)), (.int 101), (.int 99), (.int 116), (.int 95), (.int 105), (.int 100)] (.int 0) := Arv.set Ar289 qk289 qs289 qn289 qh289 qg289 (fits_nar_char _) W290 3 rfl (Nat.le_of_ble_eq_true rfl)
            rw [i2c_mask] at V290
            have N290 := Fr.snoc X290 N93 g_b60
            have K291 := K227.wr W290 (Or.inr sz_b60)
            have O291 := O227.wr W290 g_b60
            have pre292 : ∀ tz_, Steps p.tables e below (T290.setTop (mkF m 221 #[.val (.int i0), .val (.long j1), .second, .val (.int i3), .val (.int i4), .val (.ref b31), .val (.ref b60), .val (.int ti), .val (.int 0), .val (.int 3), .val (.int (i4 &&& (255 : Int32))), .unset, .unset, .unset, .unset] [])) tz_ → Steps p.tables e below (s₁.setTop (entryFrame m #[(.int i0), (.long j1), (.int i3), (.int i4)] maxLocals)) tz_ := fun tz_ kk => pre283 tz_ (by
              show Steps p.tables e below (T93.setTop (mkF m 204 #[.val (.int i0), .val (.long j1), .second, .val (.int i3), .val (.int i4), .val (.ref b31), .val (.ref b60), .val (.int ti), .val (.int 1), .val (.int 3), .val (.int (i4 &&& (255 : Int32))), .unset, .unset, .unset, .unset] [(.int (i4 &&& (255 : Int32))), (.int 106)])) _
              refine XS.icmpYes X93.here hx rfl (pc0 := 204) (pc' := 211) rfl (hb hby at_204) rfl (feq hc284).2 (by decide) (by decide) ?_
              refine XS.iconst X93.here hx rfl (hb hby at_211) ?_
              refine XS.istore X93.here hx rfl (hb hby at_212) rfl (l' := #[.val (.int i0), .val (.long j1), .second, .val (.int i3), .val (.int i4), .val (.ref b31), .val (.ref b60), .val (.int ti), .val (.int 0), .val (.int 3), .val (.int (i4 &&& (255 : Int32))), .unset, .unset, .unset, .unset]) rfl ?_
              refine XS.aload X93.here hx rfl (hb hby at_214) rfl rfl ?_
              show Steps p.tables e below (T93.setTop (mkF m 216 #[.val (.int i0), .val (.long j1), .second, .val (.int i3), .val (.int i4), .val (.ref b31), .val (.ref b60), .val (.int ti), .val (.int 0), .val (.int 3), .val (.int (i4 &&& (255 : Int32))), .unset, .unset, .unset, .unset] [(.ref b60)])) _
              refine XS.iload X93.here hx rfl (hb hby at_216) rfl ?_
              refine XS.iload X93.here hx rfl (hb hby at_218) rfl ?_
              show Steps p.tables e below (T93.setTop (mkF m 220 #[.val (.int i0), .val (.long j1), .second, .val (.int i3), .val (.int i4), .val (.ref b31), .val (.ref b60), .val (.int ti), .val (.int 0), .val (.int 3), .val (.int (i4 &&& (255 : Int32))), .unset, .unset, .unset, .unset] [(.int (i4 &&& (255 : Int32))), (.int 3), (.ref b60)])) _
              refine st290 _ ?_
              exact kk)
            exact tail229 ⟨(0 : Int32), (.val (.int 3)), (.val (.int (i4 &&& (255 : Int32)))), (112 : Int32), (114 : Int32), (111 : Int32), (i4 &&& (255 : Int32)), (101 : Int32), (99 : Int32), (116 : Int32), (95 : Int32), (105 : Int32), (100 : Int32), T290, _, X290.more (by decide) (by decide), N290, (by rw [e290]; exact ((Keep.refl T93.heap [b60]).wr W290 (Or.inl (List.mem_of_getElem? (i := 0) rfl)))), pre292, (by rw [e290]; exact V290), ⟨fun h => absurd rfl h, fun _ => ⟨3, _, by decide, rfl, hc284⟩⟩, (One.val rfl), (One.val rfl), (by unfold Ch; decide), (by unfold Ch; decide), (by unfold Ch; decide), own_chm i4, (by unfold Ch; decide), (by unfold Ch; decide), (by unfold Ch; decide), (by unfold Ch; decide), (by unfold Ch; decide), (by unfold Ch; decide)⟩
        · skip
          have pre293 := pre235
          rw [hk236] at pre293
          have ne294 : b60 ≠ b31 := (Ne.symm (Nat.ne_of_lt (Nat.lt_of_lt_of_le V58.lt (Nat.le_of_eq q60.symm))))
          have f295 := (V90.keep Kj93 (ninS ne294 nin0))
          obtain ⟨cl296, Ar296, qk296, qs296, qn296, qh296, qg296⟩ := id f295
          have hin296 : ¬ ((4 : Int32) < 0 ∨ cl296.slots.size ≤ ((4 : Int32)).toNatClampNeg) := inb_of qs296 ⟨by decide, by decide⟩
          have hat296 : cl296.slots[((4 : Int32)).toNatClampNeg]? = some (.int 101) := qh296.at hin296 rfl
          have pre297 : ∀ tz_, Steps p.tables e below (T93.setTop (mkF m 204 #[.val (.int i0), .val (.long j1), .second, .val (.int i3), .val (.int i4), .val (.ref b31), .val (.ref b60), .val (.int ti), .val (.int 1), .val (.int 4), .val (.int (i4 &&& (255 : Int32))), .unset, .unset, .unset, .unset] [(.int (i4 &&& (255 : Int32))), (.int 101)])) tz_ → Steps p.tables e below (s₁.setTop (entryFrame m #[(.int i0), (.long j1), (.int i3), (.int i4)] maxLocals)) tz_ := fun tz_ kk => pre293 tz_ (by
            show Steps p.tables e below (T93.setTop (mkF m 197 #[.val (.int i0), .val (.long j1), .second, .val (.int i3), .val (.int i4), .val (.ref b31), .val (.ref b60), .val (.int ti), .val (.int 1), .val (.int 4), .val (.int (i4 &&& (255 : Int32))), .unset, .unset, .unset, .unset] [])) _
            refine XS.aload X93.here hx rfl (hb hby at_197) rfl rfl ?_
            show Steps p.tables e below (T93.setTop (mkF m 199 #[.val (.int i0), .val (.long j1), .second, .val (.int i3), .val (.int i4), .val (.ref b31), .val (.ref b60), .val (.int ti), .val (.int 1), .val (.int 4), .val (.int (i4 &&& (255 : Int32))), .unset, .unset, .unset, .unset] [(.ref b60)])) _
            refine XS.iload X93.here hx rfl (hb hby at_199) rfl ?_
            show Steps p.tables e below (T93.setTop (mkF m 201 #[.val (.int i0), .val (.long j1), .second, .val (.int i3), .val (.int i4), .val (.ref b31), .val (.ref b60), .val (.int ti), .val (.int 1), .val (.int 4), .val (.int (i4 &&& (255 : Int32))), .unset, .unset, .unset, .unset] [(.int 4), (.ref b60)])) _
            refine X93.caload hx (j := (4 : Int32)) (v := (.int 101)) Ar296.1 (State.isArrayOf_alike hZ.alike Ar296.2.1) Ar296.2.2 hin296 hat296 (g := (mkF m 201 #[.val (.int i0), .val (.long j1), .second, .val (.int i3), .val (.int i4), .val (.ref b31), .val (.ref b60), .val (.int ti), .val (.int 1), .val (.int 4), .val (.int (i4 &&& (255 : Int32))), .unset, .unset, .unset, .unset] [(.int 4), (.ref b60)])) rfl rfl (hb hby at_201) _ ?_
            refine XS.iload X93.here hx rfl (hb hby at_202) rfl ?_
            exact kk)
          by_cases hc298 : (101 : Int32) = (i4 &&& (255 : Int32))
          · skip
            obtain ⟨cl299, Ar299, qk299, qs299, qn299, qh299, qg299⟩ := id f295
            have hin299 : ¬ ((4 : Int32) < 0 ∨ cl299.slots.size ≤ ((4 : Int32)).toNatClampNeg) := inb_of qs299 ⟨by decide, by decide⟩
            obtain ⟨T300, h300, X300, e300, W300, st300⟩ := stC X93 hx hZ rfl Ar299 (j := (4 : Int32)) hin299 (g := (mkF m 220 #[.val (.int i0), .val (.long j1), .second, .val (.int i3), .val (.int i4), .val (.ref b31), .val (.ref b60), .val (.int ti), .val (.int 1), .val (.int 4), .val (.int (i4 &&& (255 : Int32))), .unset, .unset, .unset, .unset] [(.int (i4 &&& (255 : Int32))), (.int 4), (.ref b60)])) rfl rfl (hb hby at_220)
            have V300 : Arv Z h300 b60 k60 .char (10 : Int32) [(.int 112), (.int 114), (.int 111), (.int 106), (.int ((i4 &&& (255 : Int32)).toUInt32.toUInt16.toUInt32.toInt32)), (.int 99), (.int 116), (.int 95), (.int 105), (.int 100)] (.int 0) := Arv.set Ar299 qk299 qs299 qn299 qh299 qg299 (fits_nar_char _) W300 4 rfl (Nat.le_of_ble_eq_true rfl)
            rw [i2c_mask] at V300
            have N300 := Fr.snoc X300 N93 g_b60
            have K301 := K227.wr W300 (Or.inr sz_b60)
            have O301 := O227.wr W300 g_b60
            have pre302 : ∀ tz_, Steps p.tables e below (T300.setTop (mkF m 221 #[.val (.int i0), .val (.long j1), .second, .val (.int i3), .val (.int i4), .val (.ref b31), .val (.ref b60), .val (.int ti), .val (.int 1), .val (.int 4), .val (.int (i4 &&& (255 : Int32))), .unset, .unset, .unset, .unset] [])) tz_ → Steps p.tables e below (s₁.setTop (entryFrame m #[(.int i0), (.long j1), (.int i3), (.int i4)] maxLocals)) tz_ := fun tz_ kk => pre297 tz_ (by
              show Steps p.tables e below (T93.setTop (mkF m 204 #[.val (.int i0), .val (.long j1), .second, .val (.int i3), .val (.int i4), .val (.ref b31), .val (.ref b60), .val (.int ti), .val (.int 1), .val (.int 4), .val (.int (i4 &&& (255 : Int32))), .unset, .unset, .unset, .unset] [(.int (i4 &&& (255 : Int32))), (.int 101)])) _
              refine XS.icmpNo X93.here hx rfl (hb hby at_204) rfl (teq hc298).2 ?_
              show Steps p.tables e below (T93.setTop (mkF m 207 #[.val (.int i0), .val (.long j1), .second, .val (.int i3), .val (.int i4), .val (.ref b31), .val (.ref b60), .val (.int ti), .val (.int 1), .val (.int 4), .val (.int (i4 &&& (255 : Int32))), .unset, .unset, .unset, .unset] [])) _
              refine XS.iconst X93.here hx rfl (hb hby at_207) ?_
              refine XS.goto X93.here hx rfl (pc0 := 208) (pc' := 212) rfl (hb hby at_208) (by decide) (by decide) ?_
              refine XS.istore X93.here hx rfl (hb hby at_212) rfl (l' := #[.val (.int i0), .val (.long j1), .second, .val (.int i3), .val (.int i4), .val (.ref b31), .val (.ref b60), .val (.int ti), .val (.int 1), .val (.int 4), .val (.int (i4 &&& (255 : Int32))), .unset, .unset, .unset, .unset]) rfl ?_
              refine XS.aload X93.here hx rfl (hb hby at_214) rfl rfl ?_
              show Steps p.tables e below (T93.setTop (mkF m 216 #[.val (.int i0), .val (.long j1), .second, .val (.int i3), .val (.int i4), .val (.ref b31), .val (.ref b60), .val (.int ti), .val (.int 1), .val (.int 4), .val (.int (i4 &&& (255 : Int32))), .unset, .unset, .unset, .unset] [(.ref b60)])) _
              refine XS.iload X93.here hx rfl (hb hby at_216) rfl ?_
              refine XS.iload X93.here hx rfl (hb hby at_218) rfl ?_
              show Steps p.tables e below (T93.setTop (mkF m 220 #[.val (.int i0), .val (.long j1), .second, .val (.int i3), .val (.int i4), .val (.ref b31), .val (.ref b60), .val (.int ti), .val (.int 1), .val (.int 4), .val (.int (i4 &&& (255 : Int32))), .unset, .unset, .unset, .unset] [(.int (i4 &&& (255 : Int32))), (.int 4), (.ref b60)])) _
              refine st300 _ ?_
              exact kk)
            exact tail229 ⟨(1 : Int32), (.val (.int 4)), (.val (.int (i4 &&& (255 : Int32)))), (112 : Int32), (114 : Int32), (111 : Int32), (106 : Int32), (i4 &&& (255 : Int32)), (99 : Int32), (116 : Int32), (95 : Int32), (105 : Int32), (100 : Int32), T300, _, X300.more (by decide) (by decide), N300, (by rw [e300]; exact ((Keep.refl T93.heap [b60]).wr W300 (Or.inl (List.mem_of_getElem? (i := 0) rfl)))), pre302, (by rw [e300]; exact V300), ⟨fun _ => by rw [← hc298]; rfl, fun h => absurd h (by decide)⟩, (One.val rfl), (One.val rfl), (by unfold Ch; decide), (by unfold Ch; decide), (by unfold Ch; decide), (by unfold Ch; decide), own_chm i4, (by unfold Ch; decide), (by unfold Ch; decide), (by unfold Ch; decide), (by unfold Ch; decide), (by unfold Ch; decide)⟩
          · skip
            obtain ⟨cl303, Ar303, qk303, qs303, qn303, qh303, qg303⟩ := id f295
            have hin303 : ¬ ((4 : Int32) < 0 ∨ cl303.slots.size ≤ ((4 : Int32)).toNatClampNeg) := inb_of qs303 ⟨by decide, by decide⟩
            obtain ⟨T304, h304, X304, e304, W304, st304⟩ := stC X93 hx hZ rfl Ar303 (j := (4 : Int32)) hin303 (g := (mkF m 220 #[.val (.int i0), .val (.long j1), .second, .val (.int i3), .val (.int i4), .val (.ref b31), .val (.ref b60), .val (.int ti), .val (.int 0), .val (.int 4), .val (.int (i4 &&& (255 : Int32))), .unset, .unset, .unset, .unset] [(.int (i4 &&& (255 : Int32))), (.int 4), (.ref b60)])) rfl rfl (hb hby at_220)
            have V304 : Arv Z h304 b60 k60 .char (10 : Int32) [(.int 112), (.int 114), (.int 111), (.int 106), (.int ((i4 &&& (255 : Int32)).toUInt32.toUInt16.toUInt32.toInt32)), (.int 99), (.int 116), (.int 95), (.int 105), (.int 100)] (.int 0) := Arv.set Ar303 qk303 qs303 qn303 qh303 qg303 (fits_nar_char _) W304 4 rfl (Nat.le_of_ble_eq_true rfl)
            rw [i2c_mask] at V304
            have N304 := Fr.snoc X304 N93 g_b60
            have K305 := K227.wr W304 (Or.inr sz_b60)
            have O305 := O227.wr W304 g_b60
            have pre306 : ∀ tz_, Steps p.tables e below (T304.setTop (mkF m 221 #[.val (.int i0), .val (.long j1), .second, .val (.int i3), .val (.int i4), .val (.ref b31), .val (.ref b60), .val (.int ti), .val (.int 0), .val (.int 4), .val (.int (i4 &&& (255 : Int32))), .unset, .unset, .unset, .unset] [])) tz_ → Steps p.tables e below (s₁.setTop (entryFrame m #[(.int i0), (.long j1), (.int i3), (.int i4)] maxLocals)) tz_ := fun tz_ kk => pre297 tz_ (by
              show Steps p.tables e below (T93.setTop (mkF m 204 #[.val (.int i0), .val (.long j1), .second, .val (.int i3), .val (.int i4), .val (.ref b31), .val (.ref b60), .val (.int ti), .val (.int 1), .val (.int 4), .val (.int (i4 &&& (255 : Int32))), .unset, .unset, .unset, .unset] [(.int (i4 &&& (255 : Int32))), (.int 101)])) _
              refine XS.icmpYes X93.here hx rfl (pc0 := 204) (pc' := 211) rfl (hb hby at_204) rfl (feq hc298).2 (by decide) (by decide) ?_
              refine XS.iconst X93.here hx rfl (hb hby at_211) ?_
              show Steps p.tables e below (T93.setTop (mkF m 212 #[.val (.int i0), .val (.long j1), .second, .val (.int i3), .val (.int i4), .val (.ref b31), .val (.ref b60), .val (.int ti), .val (.int 1), .val (.int 4), .val (.int (i4 &&& (255 : Int32))), .unset, .unset, .unset, .unset] [(.int 0)])) _
              refine XS.istore X93.here hx rfl (hb hby at_212) rfl (l' := #[.val (.int i0), .val (.long j1), .second, .val (.int i3), .val (.int i4), .val (.ref b31), .val (.ref b60), .val (.int ti), .val (.int 0), .val (.int 4), .val (.int (i4 &&& (255 : Int32))), .unset, .unset, .unset, .unset]) rfl ?_
              refine XS.aload X93.here hx rfl (hb hby at_214) rfl rfl ?_
              refine XS.iload X93.here hx rfl (hb hby at_216) rfl ?_
              refine XS.iload X93.here hx rfl (hb hby at_218) rfl ?_
              show Steps p.tables e below (T93.setTop (mkF m 220 #[.val (.int i0), .val (.long j1), .second, .val (.int i3), .val (.int i4), .val (.ref b31), .val (.ref b60), .val (.int ti), .val (.int 0), .val (.int 4), .val (.int (i4 &&& (255 : Int32))), .unset, .unset, .unset, .unset] [(.int (i4 &&& (255 : Int32))), (.int 4), (.ref b60)])) _
              refine st304 _ ?_
              exact kk)
            exact tail229 ⟨(0 : Int32), (.val (.int 4)), (.val (.int (i4 &&& (255 : Int32)))), (112 : Int32), (114 : Int32), (111 : Int32), (106 : Int32), (i4 &&& (255 : Int32)), (99 : Int32), (116 : Int32), (95 : Int32), (105 : Int32), (100 : Int32), T304, _, X304.more (by decide) (by decide), N304, (by rw [e304]; exact ((Keep.refl T93.heap [b60]).wr W304 (Or.inl (List.mem_of_getElem? (i := 0) rfl)))), pre306, (by rw [e304]; exact V304), ⟨fun h => absurd rfl h, fun _ => ⟨4, _, by decide, rfl, hc298⟩⟩, (One.val rfl), (One.val rfl), (by unfold Ch; decide), (by unfold Ch; decide), (by unfold Ch; decide), (by unfold Ch; decide), own_chm i4, (by unfold Ch; decide), (by unfold Ch; decide), (by unfold Ch; decide), (by unfold Ch; decide), (by unfold Ch; decide)⟩
        · skip
          have pre307 := pre235
          rw [hk236] at pre307
          have ne308 : b60 ≠ b31 := (Ne.symm (Nat.ne_of_lt (Nat.lt_of_lt_of_le V58.lt (Nat.le_of_eq q60.symm))))
          have f309 := (V90.keep Kj93 (ninS ne308 nin0))
          obtain ⟨cl310, Ar310, qk310, qs310, qn310, qh310, qg310⟩ := id f309
          have hin310 : ¬ ((5 : Int32) < 0 ∨ cl310.slots.size ≤ ((5 : Int32)).toNatClampNeg) := inb_of qs310 ⟨by decide, by decide⟩
          have hat310 : cl310.slots[((5 : Int32)).toNatClampNeg]? = some (.int 99) := qh310.at hin310 rfl
          have pre311 : ∀ tz_, Steps p.tables e below (T93.setTop (mkF m 204 #[.val (.int i0), .val (.long j1), .second, .val (.int i3), .val (.int i4), .val (.ref b31), .val (.ref b60), .val (.int ti), .val (.int 1), .val (.int 5), .val (.int (i4 &&& (255 : Int32))), .unset, .unset, .unset, .unset] [(.int (i4 &&& (255 : Int32))), (.int 99)])) tz_ → Steps p.tables e below (s₁.setTop (entryFrame m #[(.int i0), (.long j1), (.int i3), (.int i4)] maxLocals)) tz_ := fun tz_ kk => pre307 tz_ (by
            show Steps p.tables e below (T93.setTop (mkF m 197 #[.val (.int i0), .val (.long j1), .second, .val (.int i3), .val (.int i4), .val (.ref b31), .val (.ref b60), .val (.int ti), .val (.int 1), .val (.int 5), .val (.int (i4 &&& (255 : Int32))), .unset, .unset, .unset, .unset] [])) _
            refine XS.aload X93.here hx rfl (hb hby at_197) rfl rfl ?_
            refine XS.iload X93.here hx rfl (hb hby at_199) rfl ?_
            show Steps p.tables e below (T93.setTop (mkF m 201 #[.val (.int i0), .val (.long j1), .second, .val (.int i3), .val (.int i4), .val (.ref b31), .val (.ref b60), .val (.int ti), .val (.int 1), .val (.int 5), .val (.int (i4 &&& (255 : Int32))), .unset, .unset, .unset, .unset] [(.int 5), (.ref b60)])) _
            refine X93.caload hx (j := (5 : Int32)) (v := (.int 99)) Ar310.1 (State.isArrayOf_alike hZ.alike Ar310.2.1) Ar310.2.2 hin310 hat310 (g := (mkF m 201 #[.val (.int i0), .val (.long j1), .second, .val (.int i3), .val (.int i4), .val (.ref b31), .val (.ref b60), .val (.int ti), .val (.int 1), .val (.int 5), .val (.int (i4 &&& (255 : Int32))), .unset, .unset, .unset, .unset] [(.int 5), (.ref b60)])) rfl rfl (hb hby at_201) _ ?_
            show Steps p.tables e below (T93.setTop (mkF m 202 #[.val (.int i0), .val (.long j1), .second, .val (.int i3), .val (.int i4), .val (.ref b31), .val (.ref b60), .val (.int ti), .val (.int 1), .val (.int 5), .val (.int (i4 &&& (255 : Int32))), .unset, .unset, .unset, .unset] [(.int 99)])) _
            refine XS.iload X93.here hx rfl (hb hby at_202) rfl ?_
            exact kk)
          by_cases hc312 : (99 : Int32) = (i4 &&& (255 : Int32))
          · skip
            obtain ⟨cl313, Ar313, qk313, qs313, qn313, qh313, qg313⟩ := id f309
            have hin313 : ¬ ((5 : Int32) < 0 ∨ cl313.slots.size ≤ ((5 : Int32)).toNatClampNeg) := inb_of qs313 ⟨by decide, by decide⟩
            obtain ⟨T314, h314, X314, e314, W314, st314⟩ := stC X93 hx hZ rfl Ar313 (j := (5 : Int32)) hin313 (g := (mkF m 220 #[.val (.int i0), .val (.long j1), .second, .val (.int i3), .val (.int i4), .val (.ref b31), .val (.ref b60), .val (.int ti), .val (.int 1), .val (.int 5), .val (.int (i4 &&& (255 : Int32))), .unset, .unset, .unset, .unset] [(.int (i4 &&& (255 : Int32))), (.int 5), (.ref b60)])) rfl rfl (hb hby at_220)
            have V314 : Arv Z h314 b60 k60 .char (10 : Int32) [(.int 112), (.int 114), (.int 111), (.int 106), (.int 101), (.int ((i4 &&& (255 : Int32)).toUInt32.toUInt16.toUInt32.toInt32)), (.int 116), (.int 95), (.int 105), (.int 100)] (.int 0) := Arv.set Ar313 qk313 qs313 qn313 qh313 qg313 (fits_nar_char _) W314 5 rfl (Nat.le_of_ble_eq_true rfl)
            rw [i2c_mask] at V314
            have N314 := Fr.snoc X314 N93 g_b60
            have K315 := K227.wr W314 (Or.inr sz_b60)
            have O315 := O227.wr W314 g_b60
            have pre316 : ∀ tz_, Steps p.tables e below (T314.setTop (mkF m 221 #[.val (.int i0), .val (.long j1), .second, .val (.int i3), .val (.int i4), .val (.ref b31), .val (.ref b60), .val (.int ti), .val (.int 1), .val (.int 5), .val (.int (i4 &&& (255 : Int32))), .unset, .unset, .unset, .unset] [])) tz_ → Steps p.tables e below (s₁.setTop (entryFrame m #[(.int i0), (.long j1), (.int i3), (.int i4)] maxLocals)) tz_ := fun tz_ kk => pre311 tz_ (by
              show Steps p.tables e below (T93.setTop (mkF m 204 #[.val (.int i0), .val (.long j1), .second, .val (.int i3), .val (.int i4), .val (.ref b31), .val (.ref b60), .val (.int ti), .val (.int 1), .val (.int 5), .val (.int (i4 &&& (255 : Int32))), .unset, .unset, .unset, .unset] [(.int (i4 &&& (255 : Int32))), (.int 99)])) _
              refine XS.icmpNo X93.here hx rfl (hb hby at_204) rfl (teq hc312).2 ?_
              refine XS.iconst X93.here hx rfl (hb hby at_207) ?_
              refine XS.goto X93.here hx rfl (pc0 := 208) (pc' := 212) rfl (hb hby at_208) (by decide) (by decide) ?_
              show Steps p.tables e below (T93.setTop (mkF m 212 #[.val (.int i0), .val (.long j1), .second, .val (.int i3), .val (.int i4), .val (.ref b31), .val (.ref b60), .val (.int ti), .val (.int 1), .val (.int 5), .val (.int (i4 &&& (255 : Int32))), .unset, .unset, .unset, .unset] [(.int 1)])) _
              refine XS.istore X93.here hx rfl (hb hby at_212) rfl (l' := #[.val (.int i0), .val (.long j1), .second, .val (.int i3), .val (.int i4), .val (.ref b31), .val (.ref b60), .val (.int ti), .val (.int 1), .val (.int 5), .val (.int (i4 &&& (255 : Int32))), .unset, .unset, .unset, .unset]) rfl ?_
              refine XS.aload X93.here hx rfl (hb hby at_214) rfl rfl ?_
              refine XS.iload X93.here hx rfl (hb hby at_216) rfl ?_
              refine XS.iload X93.here hx rfl (hb hby at_218) rfl ?_
              show Steps p.tables e below (T93.setTop (mkF m 220 #[.val (.int i0), .val (.long j1), .second, .val (.int i3), .val (.int i4), .val (.ref b31), .val (.ref b60), .val (.int ti), .val (.int 1), .val (.int 5), .val (.int (i4 &&& (255 : Int32))), .unset, .unset, .unset, .unset] [(.int (i4 &&& (255 : Int32))), (.int 5), (.ref b60)])) _
              refine st314 _ ?_
              exact kk)
            exact tail229 ⟨(1 : Int32), (.val (.int 5)), (.val (.int (i4 &&& (255 : Int32)))), (112 : Int32), (114 : Int32), (111 : Int32), (106 : Int32), (101 : Int32), (i4 &&& (255 : Int32)), (116 : Int32), (95 : Int32), (105 : Int32), (100 : Int32), T314, _, X314.more (by decide) (by decide), N314, (by rw [e314]; exact ((Keep.refl T93.heap [b60]).wr W314 (Or.inl (List.mem_of_getElem? (i := 0) rfl)))), pre316, (by rw [e314]; exact V314), ⟨fun _ => by rw [← hc312]; rfl, fun h => absurd h (by decide)⟩, (One.val rfl), (One.val rfl), (by unfold Ch; decide), (by unfold Ch; decide), (by unfold Ch; decide), (by unfold Ch; decide), (by unfold Ch; decide), own_chm i4, (by unfold Ch; decide), (by unfold Ch; decide), (by unfold Ch; decide), (by unfold Ch; decide)⟩
          · skip
            obtain ⟨cl317, Ar317, qk317, qs317, qn317, qh317, qg317⟩ := id f309
            have hin317 : ¬ ((5 : Int32) < 0 ∨ cl317.slots.size ≤ ((5 : Int32)).toNatClampNeg) := inb_of qs317 ⟨by decide, by decide⟩
            obtain ⟨T318, h318, X318, e318, W318, st318⟩ := stC X93 hx hZ rfl Ar317 (j := (5 : Int32)) hin317 (g := (mkF m 220 #[.val (.int i0), .val (.long j1), .second, .val (.int i3), .val (.int i4), .val (.ref b31), .val (.ref b60), .val (.int ti), .val (.int 0), .val (.int 5), .val (.int (i4 &&& (255 : Int32))), .unset, .unset, .unset, .unset] [(.int (i4 &&& (255 : Int32))), (.int 5), (.ref b60)])) rfl rfl (hb hby at_220)
            have V318 : Arv Z h318 b60 k60 .char (10 : Int32) [(.int 112), (.int 114), (.int 111), (.int 106), (.int 101), (.int ((i4 &&& (255 : Int32)).toUInt32.toUInt16.toUInt32.toInt32)), (.int 116), (.int 95), (.int 105), (.int 100)] (.int 0) := Arv.set Ar317 qk317 qs317 qn317 qh317 qg317 (fits_nar_char _) W318 5 rfl (Nat.le_of_ble_eq_true rfl)
            rw [i2c_mask] at V318
            have N318 := Fr.snoc X318 N93 g_b60
            have K319 := K227.wr W318 (Or.inr sz_b60)
            have O319 := O227.wr W318 g_b60
            have pre320 : ∀ tz_, Steps p.tables e below (T318.setTop (mkF m 221 #[.val (.int i0), .val (.long j1), .second, .val (.int i3), .val (.int i4), .val (.ref b31), .val (.ref b60), .val (.int ti), .val (.int 0), .val (.int 5), .val (.int (i4 &&& (255 : Int32))), .unset, .unset, .unset, .unset] [])) tz_ → Steps p.tables e below (s₁.setTop (entryFrame m #[(.int i0), (.long j1), (.int i3), (.int i4)] maxLocals)) tz_ := fun tz_ kk => pre311 tz_ (by
              show Steps p.tables e below (T93.setTop (mkF m 204 #[.val (.int i0), .val (.long j1), .second, .val (.int i3), .val (.int i4), .val (.ref b31), .val (.ref b60), .val (.int ti), .val (.int 1), .val (.int 5), .val (.int (i4 &&& (255 : Int32))), .unset, .unset, .unset, .unset] [(.int (i4 &&& (255 : Int32))), (.int 99)])) _
              refine XS.icmpYes X93.here hx rfl (pc0 := 204) (pc' := 211) rfl (hb hby at_204) rfl (feq hc312).2 (by decide) (by decide) ?_
              refine XS.iconst X93.here hx rfl (hb hby at_211) ?_
              refine XS.istore X93.here hx rfl (hb hby at_212) rfl (l' := #[.val (.int i0), .val (.long j1), .second, .val (.int i3), .val (.int i4), .val (.ref b31), .val (.ref b60), .val (.int ti), .val (.int 0), .val (.int 5), .val (.int (i4 &&& (255 : Int32))), .unset, .unset, .unset, .unset]) rfl ?_
              refine XS.aload X93.here hx rfl (hb hby at_214) rfl rfl ?_
              show Steps p.tables e below (T93.setTop (mkF m 216 #[.val (.int i0), .val (.long j1), .second, .val (.int i3), .val (.int i4), .val (.ref b31), .val (.ref b60), .val (.int ti), .val (.int 0), .val (.int 5), .val (.int (i4 &&& (255 : Int32))), .unset, .unset, .unset, .unset] [(.ref b60)])) _
              refine XS.iload X93.here hx rfl (hb hby at_216) rfl ?_
              refine XS.iload X93.here hx rfl (hb hby at_218) rfl ?_
              show Steps p.tables e below (T93.setTop (mkF m 220 #[.val (.int i0), .val (.long j1), .second, .val (.int i3), .val (.int i4), .val (.ref b31), .val (.ref b60), .val (.int ti), .val (.int 0), .val (.int 5), .val (.int (i4 &&& (255 : Int32))), .unset, .unset, .unset, .unset] [(.int (i4 &&& (255 : Int32))), (.int 5), (.ref b60)])) _
              refine st318 _ ?_
              exact kk)
            exact tail229 ⟨(0 : Int32), (.val (.int 5)), (.val (.int (i4 &&& (255 : Int32)))), (112 : Int32), (114 : Int32), (111 : Int32), (106 : Int32), (101 : Int32), (i4 &&& (255 : Int32)), (116 : Int32), (95 : Int32), (105 : Int32), (100 : Int32), T318, _, X318.more (by decide) (by decide), N318, (by rw [e318]; exact ((Keep.refl T93.heap [b60]).wr W318 (Or.inl (List.mem_of_getElem? (i := 0) rfl)))), pre320, (by rw [e318]; exact V318), ⟨fun h => absurd rfl h, fun _ => ⟨5, _, by decide, rfl, hc312⟩⟩, (One.val rfl), (One.val rfl), (by unfold Ch; decide), (by unfold Ch; decide), (by unfold Ch; decide), (by unfold Ch; decide), (by unfold Ch; decide), own_chm i4, (by unfold Ch; decide), (by unfold Ch; decide), (by unfold Ch; decide), (by unfold Ch; decide)⟩
        · skip
          have pre321 := pre235
          rw [hk236] at pre321
          have ne322 : b60 ≠ b31 := (Ne.symm (Nat.ne_of_lt (Nat.lt_of_lt_of_le V58.lt (Nat.le_of_eq q60.symm))))
          have f323 := (V90.keep Kj93 (ninS ne322 nin0))
          obtain ⟨cl324, Ar324, qk324, qs324, qn324, qh324, qg324⟩ := id f323
          have hin324 : ¬ ((6 : Int32) < 0 ∨ cl324.slots.size ≤ ((6 : Int32)).toNatClampNeg) := inb_of qs324 ⟨by decide, by decide⟩
          have hat324 : cl324.slots[((6 : Int32)).toNatClampNeg]? = some (.int 116) := qh324.at hin324 rfl
          have pre325 : ∀ tz_, Steps p.tables e below (T93.setTop (mkF m 204 #[.val (.int i0), .val (.long j1), .second, .val (.int i3), .val (.int i4), .val (.ref b31), .val (.ref b60), .val (.int ti), .val (.int 1), .val (.int 6), .val (.int (i4 &&& (255 : Int32))), .unset, .unset, .unset, .unset] [(.int (i4 &&& (255 : Int32))), (.int 116)])) tz_ → Steps p.tables e below (s₁.setTop (entryFrame m #[(.int i0), (.long j1), (.int i3), (.int i4)] maxLocals)) tz_ := fun tz_ kk => pre321 tz_ (by
            show Steps p.tables e below (T93.setTop (mkF m 197 #[.val (.int i0), .val (.long j1), .second, .val (.int i3), .val (.int i4), .val (.ref b31), .val (.ref b60), .val (.int ti), .val (.int 1), .val (.int 6), .val (.int (i4 &&& (255 : Int32))), .unset, .unset, .unset, .unset] [])) _
            refine XS.aload X93.here hx rfl (hb hby at_197) rfl rfl ?_
            show Steps p.tables e below (T93.setTop (mkF m 199 #[.val (.int i0), .val (.long j1), .second, .val (.int i3), .val (.int i4), .val (.ref b31), .val (.ref b60), .val (.int ti), .val (.int 1), .val (.int 6), .val (.int (i4 &&& (255 : Int32))), .unset, .unset, .unset, .unset] [(.ref b60)])) _
            refine XS.iload X93.here hx rfl (hb hby at_199) rfl ?_
            show Steps p.tables e below (T93.setTop (mkF m 201 #[.val (.int i0), .val (.long j1), .second, .val (.int i3), .val (.int i4), .val (.ref b31), .val (.ref b60), .val (.int ti), .val (.int 1), .val (.int 6), .val (.int (i4 &&& (255 : Int32))), .unset, .unset, .unset, .unset] [(.int 6), (.ref b60)])) _
            refine X93.caload hx (j := (6 : Int32)) (v := (.int 116)) Ar324.1 (State.isArrayOf_alike hZ.alike Ar324.2.1) Ar324.2.2 hin324 hat324 (g := (mkF m 201 #[.val (.int i0), .val (.long j1), .second, .val (.int i3), .val (.int i4), .val (.ref b31), .val (.ref b60), .val (.int ti), .val (.int 1), .val (.int 6), .val (.int (i4 &&& (255 : Int32))), .unset, .unset, .unset, .unset] [(.int 6), (.ref b60)])) rfl rfl (hb hby at_201) _ ?_
            refine XS.iload X93.here hx rfl (hb hby at_202) rfl ?_
            exact kk)
          by_cases hc326 : (116 : Int32) = (i4 &&& (255 : Int32))
          · skip
            obtain ⟨cl327, Ar327, qk327, qs327, qn327, qh327, qg327⟩ := id f323
            have hin327 : ¬ ((6 : Int32) < 0 ∨ cl327.slots.size ≤ ((6 : Int32)).toNatClampNeg) := inb_of qs327 ⟨by decide, by decide⟩
            obtain ⟨T328, h328, X328, e328, W328, st328⟩ := stC X93 hx hZ rfl Ar327 (j := (6 : Int32)) hin327 (g := (mkF m 220 #[.val (.int i0), .val (.long j1), .second, .val (.int i3), .val (.int i4), .val (.ref b31), .val (.ref b60), .val (.int ti), .val (.int 1), .val (.int 6), .val (.int (i4 &&& (255 : Int32))), .unset, .unset, .unset, .unset] [(.int (i4 &&& (255 : Int32))), (.int 6), (.ref b60)])) rfl rfl (hb hby at_220)
            have V328 : Arv Z h328 b60 k60 .char (10 : Int32) [(.int 112), (.int 114), (.int 111), (.int 106), (.int 101), (.int 99), (.int ((i4 &&& (255 : Int32)).toUInt32.toUInt16.toUInt32.toInt32)), (.int 95), (.int 105), (.int 100)] (.int 0) := Arv.set Ar327 qk327 qs327 qn327 qh327 qg327 (fits_nar_char _) W328 6 rfl (Nat.le_of_ble_eq_true rfl)
            rw [i2c_mask] at V328
            have N328 := Fr.snoc X328 N93 g_b60
            have K329 := K227.wr W328 (Or.inr sz_b60)
            have O329 := O227.wr W328 g_b60
            have pre330 : ∀ tz_, Steps p.tables e below (T328.setTop (mkF m 221 #[.val (.int i0), .val (.long j1), .second, .val (.int i3), .val (.int i4), .val (.ref b31), .val (.ref b60), .val (.int ti), .val (.int 1), .val (.int 6), .val (.int (i4 &&& (255 : Int32))), .unset, .unset, .unset, .unset] [])) tz_ → Steps p.tables e below (s₁.setTop (entryFrame m #[(.int i0), (.long j1), (.int i3), (.int i4)] maxLocals)) tz_ := fun tz_ kk => pre325 tz_ (by
              show Steps p.tables e below (T93.setTop (mkF m 204 #[.val (.int i0), .val (.long j1), .second, .val (.int i3), .val (.int i4), .val (.ref b31), .val (.ref b60), .val (.int ti), .val (.int 1), .val (.int 6), .val (.int (i4 &&& (255 : Int32))), .unset, .unset, .unset, .unset] [(.int (i4 &&& (255 : Int32))), (.int 116)])) _
              refine XS.icmpNo X93.here hx rfl (hb hby at_204) rfl (teq hc326).2 ?_
              show Steps p.tables e below (T93.setTop (mkF m 207 #[.val (.int i0), .val (.long j1), .second, .val (.int i3), .val (.int i4), .val (.ref b31), .val (.ref b60), .val (.int ti), .val (.int 1), .val (.int 6), .val (.int (i4 &&& (255 : Int32))), .unset, .unset, .unset, .unset] [])) _
              refine XS.iconst X93.here hx rfl (hb hby at_207) ?_
              refine XS.goto X93.here hx rfl (pc0 := 208) (pc' := 212) rfl (hb hby at_208) (by decide) (by decide) ?_
              refine XS.istore X93.here hx rfl (hb hby at_212) rfl (l' := #[.val (.int i0), .val (.long j1), .second, .val (.int i3), .val (.int i4), .val (.ref b31), .val (.ref b60), .val (.int ti), .val (.int 1), .val (.int 6), .val (.int (i4 &&& (255 : Int32))), .unset, .unset, .unset, .unset]) rfl ?_
              refine XS.aload X93.here hx rfl (hb hby at_214) rfl rfl ?_
              show Steps p.tables e below (T93.setTop (mkF m 216 #[.val (.int i0), .val (.long j1), .second, .val (.int i3), .val (.int i4), .val (.ref b31), .val (.ref b60), .val (.int ti), .val (.int 1), .val (.int 6), .val (.int (i4 &&& (255 : Int32))), .unset, .unset, .unset, .unset] [(.ref b60)])) _
              refine XS.iload X93.here hx rfl (hb hby at_216) rfl ?_
              refine XS.iload X93.here hx rfl (hb hby at_218) rfl ?_
              show Steps p.tables e below (T93.setTop (mkF m 220 #[.val (.int i0), .val (.long j1), .second, .val (.int i3), .val (.int i4), .val (.ref b31), .val (.ref b60), .val (.int ti), .val (.int 1), .val (.int 6), .val (.int (i4 &&& (255 : Int32))), .unset, .unset, .unset, .unset] [(.int (i4 &&& (255 : Int32))), (.int 6), (.ref b60)])) _
              refine st328 _ ?_
              exact kk)
            exact tail229 ⟨(1 : Int32), (.val (.int 6)), (.val (.int (i4 &&& (255 : Int32)))), (112 : Int32), (114 : Int32), (111 : Int32), (106 : Int32), (101 : Int32), (99 : Int32), (i4 &&& (255 : Int32)), (95 : Int32), (105 : Int32), (100 : Int32), T328, _, X328.more (by decide) (by decide), N328, (by rw [e328]; exact ((Keep.refl T93.heap [b60]).wr W328 (Or.inl (List.mem_of_getElem? (i := 0) rfl)))), pre330, (by rw [e328]; exact V328), ⟨fun _ => by rw [← hc326]; rfl, fun h => absurd h (by decide)⟩, (One.val rfl), (One.val rfl), (by unfold Ch; decide), (by unfold Ch; decide), (by unfold Ch; decide), (by unfold Ch; decide), (by unfold Ch; decide), (by unfold Ch; decide), own_chm i4, (by unfold Ch; decide), (by unfold Ch; decide), (by unfold Ch; decide)⟩
          · skip
            obtain ⟨cl331, Ar331, qk331, qs331, qn331, qh331, qg331⟩ := id f323
            have hin331 : ¬ ((6 : Int32) < 0 ∨ cl331.slots.size ≤ ((6 : Int32)).toNatClampNeg) := inb_of qs331 ⟨by decide, by decide⟩
            obtain ⟨T332, h332, X332, e332, W332, st332⟩ := stC X93 hx hZ rfl Ar331 (j := (6 : Int32)) hin331 (g := (mkF m 220 #[.val (.int i0), .val (.long j1), .second, .val (.int i3), .val (.int i4), .val (.ref b31), .val (.ref b60), .val (.int ti), .val (.int 0), .val (.int 6), .val (.int (i4 &&& (255 : Int32))), .unset, .unset, .unset, .unset] [(.int (i4 &&& (255 : Int32))), (.int 6), (.ref b60)])) rfl rfl (hb hby at_220)
            have V332 : Arv Z h332 b60 k60 .char (10 : Int32) [(.int 112), (.int 114), (.int 111), (.int 106), (.int 101), (.int 99), (.int ((i4 &&& (255 : Int32)).toUInt32.toUInt16.toUInt32.toInt32)), (.int 95), (.int 105), (.int 100)] (.int 0) := Arv.set Ar331 qk331 qs331 qn331 qh331 qg331 (fits_nar_char _) W332 6 rfl (Nat.le_of_ble_eq_true rfl)
            rw [i2c_mask] at V332
            have N332 := Fr.snoc X332 N93 g_b60
            have K333 := K227.wr W332 (Or.inr sz_b60)
            have O333 := O227.wr W332 g_b60
            have pre334 : ∀ tz_, Steps p.tables e below (T332.setTop (mkF m 221 #[.val (.int i0), .val (.long j1), .second, .val (.int i3), .val (.int i4), .val (.ref b31), .val (.ref b60), .val (.int ti), .val (.int 0), .val (.int 6), .val (.int (i4 &&& (255 : Int32))), .unset, .unset, .unset, .unset] [])) tz_ → Steps p.tables e below (s₁.setTop (entryFrame m #[(.int i0), (.long j1), (.int i3), (.int i4)] maxLocals)) tz_ := fun tz_ kk => pre325 tz_ (by
              show Steps p.tables e below (T93.setTop (mkF m 204 #[.val (.int i0), .val (.long j1), .second, .val (.int i3), .val (.int i4), .val (.ref b31), .val (.ref b60), .val (.int ti), .val (.int 1), .val (.int 6), .val (.int (i4 &&& (255 : Int32))), .unset, .unset, .unset, .unset] [(.int (i4 &&& (255 : Int32))), (.int 116)])) _
              refine XS.icmpYes X93.here hx rfl (pc0 := 204) (pc' := 211) rfl (hb hby at_204) rfl (feq hc326).2 (by decide) (by decide) ?_
              refine XS.iconst X93.here hx rfl (hb hby at_211) ?_
              show Steps p.tables e below (T93.setTop (mkF m 212 #[.val (.int i0), .val (.long j1), .second, .val (.int i3), .val (.int i4), .val (.ref b31), .val (.ref b60), .val (.int ti), .val (.int 1), .val (.int 6), .val (.int (i4 &&& (255 : Int32))), .unset, .unset, .unset, .unset] [(.int 0)])) _
              refine XS.istore X93.here hx rfl (hb hby at_212) rfl (l' := #[.val (.int i0), .val (.long j1), .second, .val (.int i3), .val (.int i4), .val (.ref b31), .val (.ref b60), .val (.int ti), .val (.int 0), .val (.int 6), .val (.int (i4 &&& (255 : Int32))), .unset, .unset, .unset, .unset]) rfl ?_
              refine XS.aload X93.here hx rfl (hb hby at_214) rfl rfl ?_
              refine XS.iload X93.here hx rfl (hb hby at_216) rfl ?_
              refine XS.iload X93.here hx rfl (hb hby at_218) rfl ?_
              show Steps p.tables e below (T93.setTop (mkF m 220 #[.val (.int i0), .val (.long j1), .second, .val (.int i3), .val (.int i4), .val (.ref b31), .val (.ref b60), .val (.int ti), .val (.int 0), .val (.int 6), .val (.int (i4 &&& (255 : Int32))), .unset, .unset, .unset, .unset] [(.int (i4 &&& (255 : Int32))), (.int 6), (.ref b60)])) _
              refine st332 _ ?_
              exact kk)
            exact tail229 ⟨(0 : Int32), (.val (.int 6)), (.val (.int (i4 &&& (255 : Int32)))), (112 : Int32), (114 : Int32), (111 : Int32), (106 : Int32), (101 : Int32), (99 : Int32), (i4 &&& (255 : Int32)), (95 : Int32), (105 : Int32), (100 : Int32), T332, _, X332.more (by decide) (by decide), N332, (by rw [e332]; exact ((Keep.refl T93.heap [b60]).wr W332 (Or.inl (List.mem_of_getElem? (i := 0) rfl)))), pre334, (by rw [e332]; exact V332), ⟨fun h => absurd rfl h, fun _ => ⟨6, _, by decide, rfl, hc326⟩⟩, (One.val rfl), (One.val rfl), (by unfold Ch; decide), (by unfold Ch; decide), (by unfold Ch; decide), (by unfold Ch; decide), (by unfold Ch; decide), (by unfold Ch; decide), own_chm i4, (by unfold Ch; decide), (by unfold Ch; decide), (by unfold Ch; decide)⟩
        · skip
          have pre335 := pre235
          rw [hk236] at pre335
          have ne336 : b60 ≠ b31 := (Ne.symm (Nat.ne_of_lt (Nat.lt_of_lt_of_le V58.lt (Nat.le_of_eq q60.symm))))
          have f337 := (V90.keep Kj93 (ninS ne336 nin0))
          obtain ⟨cl338, Ar338, qk338, qs338, qn338, qh338, qg338⟩ := id f337
          have hin338 : ¬ ((7 : Int32) < 0 ∨ cl338.slots.size ≤ ((7 : Int32)).toNatClampNeg) := inb_of qs338 ⟨by decide, by decide⟩
          have hat338 : cl338.slots[((7 : Int32)).toNatClampNeg]? = some (.int 95) := qh338.at hin338 rfl
          have pre339 : ∀ tz_, Steps p.tables e below (T93.setTop (mkF m 204 #[.val (.int i0), .val (.long j1), .second, .val (.int i3), .val (.int i4), .val (.ref b31), .val (.ref b60), .val (.int ti), .val (.int 1), .val (.int 7), .val (.int (i4 &&& (255 : Int32))), .unset, .unset, .unset, .unset] [(.int (i4 &&& (255 : Int32))), (.int 95)])) tz_ → Steps p.tables e below (s₁.setTop (entryFrame m #[(.int i0), (.long j1), (.int i3), (.int i4)] maxLocals)) tz_ := fun tz_ kk => pre335 tz_ (by
            show Steps p.tables e below (T93.setTop (mkF m 197 #[.val (.int i0), .val (.long j1), .second, .val (.int i3), .val (.int i4), .val (.ref b31), .val (.ref b60), .val (.int ti), .val (.int 1), .val (.int 7), .val (.int (i4 &&& (255 : Int32))), .unset, .unset, .unset, .unset] [])) _
            refine XS.aload X93.here hx rfl (hb hby at_197) rfl rfl ?_
            refine XS.iload X93.here hx rfl (hb hby at_199) rfl ?_
            show Steps p.tables e below (T93.setTop (mkF m 201 #[.val (.int i0), .val (.long j1), .second, .val (.int i3), .val (.int i4), .val (.ref b31), .val (.ref b60), .val (.int ti), .val (.int 1), .val (.int 7), .val (.int (i4 &&& (255 : Int32))), .unset, .unset, .unset, .unset] [(.int 7), (.ref b60)])) _
            refine X93.caload hx (j := (7 : Int32)) (v := (.int 95)) Ar338.1 (State.isArrayOf_alike hZ.alike Ar338.2.1) Ar338.2.2 hin338 hat338 (g := (mkF m 201 #[.val (.int i0), .val (.long j1), .second, .val (.int i3), .val (.int i4), .val (.ref b31), .val (.ref b60), .val (.int ti), .val (.int 1), .val (.int 7), .val (.int (i4 &&& (255 : Int32))), .unset, .unset, .unset, .unset] [(.int 7), (.ref b60)])) rfl rfl (hb hby at_201) _ ?_
            show Steps p.tables e below (T93.setTop (mkF m 202 #[.val (.int i0), .val (.long j1), .second, .val (.int i3), .val (.int i4), .val (.ref b31), .val (.ref b60), .val (.int ti), .val (.int 1), .val (.int 7), .val (.int (i4 &&& (255 : Int32))), .unset, .unset, .unset, .unset] [(.int 95)])) _
            refine XS.iload X93.here hx rfl (hb hby at_202) rfl ?_
            exact kk)
          by_cases hc340 : (95 : Int32) = (i4 &&& (255 : Int32))
          · skip
            obtain ⟨cl341, Ar341, qk341, qs341, qn341, qh341, qg341⟩ := id f337
            have hin341 : ¬ ((7 : Int32) < 0 ∨ cl341.slots.size ≤ ((7 : Int32)).toNatClampNeg) := inb_of qs341 ⟨by decide, by decide⟩
            obtain ⟨T342, h342, X342, e342, W342, st342⟩ := stC X93 hx hZ rfl Ar341 (j := (7 : Int32)) hin341 (g := (mkF m 220 #[.val (.int i0), .val (.long j1), .second, .val (.int i3), .val (.int i4), .val (.ref b31), .val (.ref b60), .val (.int ti), .val (.int 1), .val (.int 7), .val (.int (i4 &&& (255 : Int32))), .unset, .unset, .unset, .unset] [(.int (i4 &&& (255 : Int32))), (.int 7), (.ref b60)])) rfl rfl (hb hby at_220)
            have V342 : Arv Z h342 b60 k60 .char (10 : Int32) [(.int 112), (.int 114), (.int 111), (.int 106), (.int 101), (.int 99), (.int 116), (.int ((i4 &&& (255 : Int32)).toUInt32.toUInt16.toUInt32.toInt32)), (.int 105), (.int 100)] (.int 0) := Arv.set Ar341 qk341 qs341 qn341 qh341 qg341 (fits_nar_char _) W342 7 rfl (Nat.le_of_ble_eq_true rfl)
            rw [i2c_mask] at V342
            have N342 := Fr.snoc X342 N93 g_b60
            have K343 := K227.wr W342 (Or.inr sz_b60)
            have O343 := O227.wr W342 g_b60
            have pre344 : ∀ tz_, Steps p.tables e below (T342.setTop (mkF m 221 #[.val (.int i0), .val (.long j1), .second, .val (.int i3), .val (.int i4), .val (.ref b31), .val (.ref b60), .val (.int ti), .val (.int 1), .val (.int 7), .val (.int (i4 &&& (255 : Int32))), .unset, .unset, .unset, .unset] [])) tz_ → Steps p.tables e below (s₁.setTop (entryFrame m #[(.int i0), (.long j1), (.int i3), (.int i4)] maxLocals)) tz_ := fun tz_ kk => pre339 tz_ (by
              show Steps p.tables e below (T93.setTop (mkF m 204 #[.val (.int i0), .val (.long j1), .second, .val (.int i3), .val (.int i4), .val (.ref b31), .val (.ref b60), .val (.int ti), .val (.int 1), .val (.int 7), .val (.int (i4 &&& (255 : Int32))), .unset, .unset, .unset, .unset] [(.int (i4 &&& (255 : Int32))), (.int 95)])) _
              refine XS.icmpNo X93.here hx rfl (hb hby at_204) rfl (teq hc340).2 ?_
              refine XS.iconst X93.here hx rfl (hb hby at_207) ?_
              refine XS.goto X93.here hx rfl (pc0 := 208) (pc' := 212) rfl (hb hby at_208) (by decide) (by decide) ?_
              show Steps p.tables e below (T93.setTop (mkF m 212 #[.val (.int i0), .val (.long j1), .second, .val (.int i3), .val (.int i4), .val (.ref b31), .val (.ref b60), .val (.int ti), .val (.int 1), .val (.int 7), .val (.int (i4 &&& (255 : Int32))), .unset, .unset, .unset, .unset] [(.int 1)])) _
              refine XS.istore X93.here hx rfl (hb hby at_212) rfl (l' := #[.val (.int i0), .val (.long j1), .second, .val (.int i3), .val (.int i4), .val (.ref b31), .val (.ref b60), .val (.int ti), .val (.int 1), .val (.int 7), .val (.int (i4 &&& (255 : Int32))), .unset, .unset, .unset, .unset]) rfl ?_
              refine XS.aload X93.here hx rfl (hb hby at_214) rfl rfl ?_
              refine XS.iload X93.here hx rfl (hb hby at_216) rfl ?_
              refine XS.iload X93.here hx rfl (hb hby at_218) rfl ?_
              show Steps p.tables e below (T93.setTop (mkF m 220 #[.val (.int i0), .val (.long j1), .second, .val (.int i3), .val (.int i4), .val (.ref b31), .val (.ref b60), .val (.int ti), .val (.int 1), .val (.int 7), .val (.int (i4 &&& (255 : Int32))), .unset, .unset, .unset, .unset] [(.int (i4 &&& (255 : Int32))), (.int 7), (.ref b60)])) _
              refine st342 _ ?_
              exact kk)
            exact tail229 ⟨(1 : Int32), (.val (.int 7)), (.val (.int (i4 &&& (255 : Int32)))), (112 : Int32), (114 : Int32), (111 : Int32), (106 : Int32), (101 : Int32), (99 : Int32), (116 : Int32), (i4 &&& (255 : Int32)), (105 : Int32), (100 : Int32), T342, _, X342.more (by decide) (by decide), N342, (by rw [e342]; exact ((Keep.refl T93.heap [b60]).wr W342 (Or.inl (List.mem_of_getElem? (i := 0) rfl)))), pre344, (by rw [e342]; exact V342), ⟨fun _ => by rw [← hc340]; rfl, fun h => absurd h (by decide)⟩, (One.val rfl), (One.val rfl), (by unfold Ch; decide), (by unfold Ch; decide), (by unfold Ch; decide), (by unfold Ch; decide), (by unfold Ch; decide), (by unfold Ch; decide), (by unfold Ch; decide), own_chm i4, (by unfold Ch; decide), (by unfold Ch; decide)⟩
          · skip
            obtain ⟨cl345, Ar345, qk345, qs345, qn345, qh345, qg345⟩ := id f337
            have hin345 : ¬ ((7 : Int32) < 0 ∨ cl345.slots.size ≤ ((7 : Int32)).toNatClampNeg) := inb_of qs345 ⟨by decide, by decide⟩
            obtain ⟨T346, h346, X346, e346, W346, st346⟩ := stC X93 hx hZ rfl Ar345 (j := (7 : Int32)) hin345 (g := (mkF m 220 #[.val (.int i0), .val (.long j1), .second, .val (.int i3), .val (.int i4), .val (.ref b31), .val (.ref b60), .val (.int ti), .val (.int 0), .val (.int 7), .val (.int (i4 &&& (255 : Int32))), .unset, .unset, .unset, .unset] [(.int (i4 &&& (255 : Int32))), (.int 7), (.ref b60)])) rfl rfl (hb hby at_220)
            have V346 : Arv Z h346 b60 k60 .char (10 : Int32) [(.int 112), (.int 114), (.int 111), (.int 106), (.int 101), (.int 99), (.int 116), (.int ((i4 &&& (255 : Int32)).toUInt32.toUInt16.toUInt32.toInt32)), (.int 105), (.int 100)] (.int 0) := Arv.set Ar345 qk345 qs345 qn345 qh345 qg345 (fits_nar_char _) W346 7 rfl (Nat.le_of_ble_eq_true rfl)
            rw [i2c_mask] at V346
            have N346 := Fr.snoc X346 N93 g_b60
            have K347 := K227.wr W346 (Or.inr sz_b60)
            have O347 := O227.wr W346 g_b60
            have pre348 : ∀ tz_, Steps p.tables e below (T346.setTop (mkF m 221 #[.val (.int i0), .val (.long j1), .second, .val (.int i3), .val (.int i4), .val (.ref b31), .val (.ref b60), .val (.int ti), .val (.int 0), .val (.int 7), .val (.int (i4 &&& (255 : Int32))), .unset, .unset, .unset, .unset] [])) tz_ → Steps p.tables e below (s₁.setTop (entryFrame m #[(.int i0), (.long j1), (.int i3), (.int i4)] maxLocals)) tz_ := fun tz_ kk => pre339 tz_ (by
              show Steps p.tables e below (T93.setTop (mkF m 204 #[.val (.int i0), .val (.long j1), .second, .val (.int i3), .val (.int i4), .val (.ref b31), .val (.ref b60), .val (.int ti), .val (.int 1), .val (.int 7), .val (.int (i4 &&& (255 : Int32))), .unset, .unset, .unset, .unset] [(.int (i4 &&& (255 : Int32))), (.int 95)])) _
              refine XS.icmpYes X93.here hx rfl (pc0 := 204) (pc' := 211) rfl (hb hby at_204) rfl (feq hc340).2 (by decide) (by decide) ?_
              refine XS.iconst X93.here hx rfl (hb hby at_211) ?_
              refine XS.istore X93.here hx rfl (hb hby at_212) rfl (l' := #[.val (.int i0), .val (.long j1), .second, .val (.int i3), .val (.int i4), .val (.ref b31), .val (.ref b60), .val (.int ti), .val (.int 0), .val (.int 7), .val (.int (i4 &&& (255 : Int32))), .unset, .unset, .unset, .unset]) rfl ?_
              refine XS.aload X93.here hx rfl (hb hby at_214) rfl rfl ?_
              show Steps p.tables e below (T93.setTop (mkF m 216 #[.val (.int i0), .val (.long j1), .second, .val (.int i3), .val (.int i4), .val (.ref b31), .val (.ref b60), .val (.int ti), .val (.int 0), .val (.int 7), .val (.int (i4 &&& (255 : Int32))), .unset, .unset, .unset, .unset] [(.ref b60)])) _
              refine XS.iload X93.here hx rfl (hb hby at_216) rfl ?_
              refine XS.iload X93.here hx rfl (hb hby at_218) rfl ?_
              show Steps p.tables e below (T93.setTop (mkF m 220 #[.val (.int i0), .val (.long j1), .second, .val (.int i3), .val (.int i4), .val (.ref b31), .val (.ref b60), .val (.int ti), .val (.int 0), .val (.int 7), .val (.int (i4 &&& (255 : Int32))), .unset, .unset, .unset, .unset] [(.int (i4 &&& (255 : Int32))), (.int 7), (.ref b60)])) _
              refine st346 _ ?_
              exact kk)
            exact tail229 ⟨(0 : Int32), (.val (.int 7)), (.val (.int (i4 &&& (255 : Int32)))), (112 : Int32), (114 : Int32), (111 : Int32), (106 : Int32), (101 : Int32), (99 : Int32), (116 : Int32), (i4 &&& (255 : Int32)), (105 : Int32), (100 : Int32), T346, _, X346.more (by decide) (by decide), N346, (by rw [e346]; exact ((Keep.refl T93.heap [b60]).wr W346 (Or.inl (List.mem_of_getElem? (i := 0) rfl)))), pre348, (by rw [e346]; exact V346), ⟨fun h => absurd rfl h, fun _ => ⟨7, _, by decide, rfl, hc340⟩⟩, (One.val rfl), (One.val rfl), (by unfold Ch; decide), (by unfold Ch; decide), (by unfold Ch; decide), (by unfold Ch; decide), (by unfold Ch; decide), (by unfold Ch; decide), (by unfold Ch; decide), own_chm i4, (by unfold Ch; decide), (by unfold Ch; decide)⟩
        · skip
          have pre349 := pre235
          rw [hk236] at pre349
          have ne350 : b60 ≠ b31 := (Ne.symm (Nat.ne_of_lt (Nat.lt_of_lt_of_le V58.lt (Nat.le_of_eq q60.symm))))
          have f351 := (V90.keep Kj93 (ninS ne350 nin0))
          obtain ⟨cl352, Ar352, qk352, qs352, qn352, qh352, qg352⟩ := id f351
          have hin352 : ¬ ((8 : Int32) < 0 ∨ cl352.slots.size ≤ ((8 : Int32)).toNatClampNeg) := inb_of qs352 ⟨by decide, by decide⟩
          have hat352 : cl352.slots[((8 : Int32)).toNatClampNeg]? = some (.int 105) := qh352.at hin352 rfl
          have pre353 : ∀ tz_, Steps p.tables e below (T93.setTop (mkF m 204 #[.val (.int i0), .val (.long j1), .second, .val (.int i3), .val (.int i4), .val (.ref b31), .val (.ref b60), .val (.int ti), .val (.int 1), .val (.int 8), .val (.int (i4 &&& (255 : Int32))), .unset, .unset, .unset, .unset] [(.int (i4 &&& (255 : Int32))), (.int 105)])) tz_ → Steps p.tables e below (s₁.setTop (entryFrame m #[(.int i0), (.long j1), (.int i3), (.int i4)] maxLocals)) tz_ := fun tz_ kk => pre349 tz_ (by
            show Steps p.tables e below (T93.setTop (mkF m 197 #[.val (.int i0), .val (.long j1), .second, .val (.int i3), .val (.int i4), .val (.ref b31), .val (.ref b60), .val (.int ti), .val (.int 1), .val (.int 8), .val (.int (i4 &&& (255 : Int32))), .unset, .unset, .unset, .unset] [])) _
            refine XS.aload X93.here hx rfl (hb hby at_197) rfl rfl ?_
            show Steps p.tables e below (T93.setTop (mkF m 199 #[.val (.int i0), .val (.long j1), .second, .val (.int i3), .val (.int i4), .val (.ref b31), .val (.ref b60), .val (.int ti), .val (.int 1), .val (.int 8), .val (.int (i4 &&& (255 : Int32))), .unset, .unset, .unset, .unset] [(.ref b60)])) _
            refine XS.iload X93.here hx rfl (hb hby at_199) rfl ?_
            show Steps p.tables e below (T93.setTop (mkF m 201 #[.val (.int i0), .val (.long j1), .second, .val (.int i3), .val (.int i4), .val (.ref b31), .val (.ref b60), .val (.int ti), .val (.int 1), .val (.int 8), .val (.int (i4 &&& (255 : Int32))), .unset, .unset, .unset, .unset] [(.int 8), (.ref b60)])) _
            refine X93.caload hx (j := (8 : Int32)) (v := (.int 105)) Ar352.1 (State.isArrayOf_alike hZ.alike Ar352.2.1) Ar352.2.2 hin352 hat352 (g := (mkF m 201 #[.val (.int i0), .val (.long j1), .second, .val (.int i3), .val (.int i4), .val (.ref b31), .val (.ref b60), .val (.int ti), .val (.int 1), .val (.int 8), .val (.int (i4 &&& (255 : Int32))), .unset, .unset, .unset, .unset] [(.int 8), (.ref b60)])) rfl rfl (hb hby at_201) _ ?_
            refine XS.iload X93.here hx rfl (hb hby at_202) rfl ?_
            exact kk)
          by_cases hc354 : (105 : Int32) = (i4 &&& (255 : Int32))
          · skip
            obtain ⟨cl355, Ar355, qk355, qs355, qn355, qh355, qg355⟩ := id f351
            have hin355 : ¬ ((8 : Int32) < 0 ∨ cl355.slots.size ≤ ((8 : Int32)).toNatClampNeg) := inb_of qs355 ⟨by decide, by decide⟩
            obtain ⟨T356, h356, X356, e356, W356, st356⟩ := stC X93 hx hZ rfl Ar355 (j := (8 : Int32)) hin355 (g := (mkF m 220 #[.val (.int i0), .val (.long j1), .second, .val (.int i3), .val (.int i4), .val (.ref b31), .val (.ref b60), .val (.int ti), .val (.int 1), .val (.int 8), .val (.int (i4 &&& (255 : Int32))), .unset, .unset, .unset, .unset] [(.int (i4 &&& (255 : Int32))), (.int 8), (.ref b60)])) rfl rfl (hb hby at_220)
            have V356 : Arv Z h356 b60 k60 .char (10 : Int32) [(.int 112), (.int 114), (.int 111), (.int 106), (.int 101), (.int 99), (.int 116), (.int 95), (.int ((i4 &&& (255 : Int32)).toUInt32.toUInt16.toUInt32.toInt32)), (.int 100)] (.int 0) := Arv.set Ar355 qk355 qs355 qn355 qh355 qg355 (fits_nar_char _) W356 8 rfl (Nat.le_of_ble_eq_true rfl)
            rw [i2c_mask] at V356
            have N356 := Fr.snoc X356 N93 g_b60
            have K357 := K227.wr W356 (Or.inr sz_b60)
            have O357 := O227.wr W356 g_b60
            have pre358 : ∀ tz_, Steps p.tables e below (T356.setTop (mkF m 221 #[.val (.int i0), .val (.long j1), .second, .val (.int i3), .val (.int i4), .val (.ref b31), .val (.ref b60), .val (.int ti), .val (.int 1), .val (.int 8), .val (.int (i4 &&& (255 : Int32))), .unset, .unset, .unset, .unset] [])) tz_ → Steps p.tables e below (s₁.setTop (entryFrame m #[(.int i0), (.long j1), (.int i3), (.int i4)] maxLocals)) tz_ := fun tz_ kk => pre353 tz_ (by
              show Steps p.tables e below (T93.setTop (mkF m 204 #[.val (.int i0), .val (.long j1), .second, .val (.int i3), .val (.int i4), .val (.ref b31), .val (.ref b60), .val (.int ti), .val (.int 1), .val (.int 8), .val (.int (i4 &&& (255 : Int32))), .unset, .unset, .unset, .unset] [(.int (i4 &&& (255 : Int32))), (.int 105)])) _
              refine XS.icmpNo X93.here hx rfl (hb hby at_204) rfl (teq hc354).2 ?_
              show Steps p.tables e below (T93.setTop (mkF m 207 #[.val (.int i0), .val (.long j1), .second, .val (.int i3), .val (.int i4), .val (.ref b31), .val (.ref b60), .val (.int ti), .val (.int 1), .val (.int 8), .val (.int (i4 &&& (255 : Int32))), .unset, .unset, .unset, .unset] [])) _
              refine XS.iconst X93.here hx rfl (hb hby at_207) ?_
              refine XS.goto X93.here hx rfl (pc0 := 208) (pc' := 212) rfl (hb hby at_208) (by decide) (by decide) ?_
              refine XS.istore X93.here hx rfl (hb hby at_212) rfl (l' := #[.val (.int i0), .val (.long j1), .second, .val (.int i3), .val (.int i4), .val (.ref b31), .val (.ref b60), .val (.int ti), .val (.int 1), .val (.int 8), .val (.int (i4 &&& (255 : Int32))), .unset, .unset, .unset, .unset]) rfl ?_
              refine XS.aload X93.here hx rfl (hb hby at_214) rfl rfl ?_
              show Steps p.tables e below (T93.setTop (mkF m 216 #[.val (.int i0), .val (.long j1), .second, .val (.int i3), .val (.int i4), .val (.ref b31), .val (.ref b60), .val (.int ti), .val (.int 1), .val (.int 8), .val (.int (i4 &&& (255 : Int32))), .unset, .unset, .unset, .unset] [(.ref b60)])) _
              refine XS.iload X93.here hx rfl (hb hby at_216) rfl ?_
              refine XS.iload X93.here hx rfl (hb hby at_218) rfl ?_
              show Steps p.tables e below (T93.setTop (mkF m 220 #[.val (.int i0), .val (.long j1), .second, .val (.int i3), .val (.int i4), .val (.ref b31), .val (.ref b60), .val (.int ti), .val (.int 1), .val (.int 8), .val (.int (i4 &&& (255 : Int32))), .unset, .unset, .unset, .unset] [(.int (i4 &&& (255 : Int32))), (.int 8), (.ref b60)])) _
              refine st356 _ ?_
              exact kk)
            exact tail229 ⟨(1 : Int32), (.val (.int 8)), (.val (.int (i4 &&& (255 : Int32)))), (112 : Int32), (114 : Int32), (111 : Int32), (106 : Int32), (101 : Int32), (99 : Int32), (116 : Int32), (95 : Int32), (i4 &&& (255 : Int32)), (100 : Int32), T356, _, X356.more (by decide) (by decide), N356, (by rw [e356]; exact ((Keep.refl T93.heap [b60]).wr W356 (Or.inl (List.mem_of_getElem? (i := 0) rfl)))), pre358, (by rw [e356]; exact V356), ⟨fun _ => by rw [← hc354]; rfl, fun h => absurd h (by decide)⟩, (One.val rfl), (One.val rfl), (by unfold Ch; decide), (by unfold Ch; decide), (by unfold Ch; decide), (by unfold Ch; decide), (by unfold Ch; decide), (by unfold Ch; decide), (by unfold Ch; decide), (by unfold Ch; decide), own_chm i4, (by unfold Ch; decide)⟩
          · skip
            obtain ⟨cl359, Ar359, qk359, qs359, qn359, qh359, qg359⟩ := id f351
            have hin359 : ¬ ((8 : Int32) < 0 ∨ cl359.slots.size ≤ ((8 : Int32)).toNatClampNeg) := inb_of qs359 ⟨by decide, by decide⟩
            obtain ⟨T360, h360, X360, e360, W360, st360⟩ := stC X93 hx hZ rfl Ar359 (j := (8 : Int32)) hin359 (g := (mkF m 220 #[.val (.int i0), .val (.long j1), .second, .val (.int i3), .val (.int i4), .val (.ref b31), .val (.ref b60), .val (.int ti), .val (.int 0), .val (.int 8), .val (.int (i4 &&& (255 : Int32))), .unset, .unset, .unset, .unset] [(.int (i4 &&& (255 : Int32))), (.int 8), (.ref b60)])) rfl rfl (hb hby at_220)
            have V360 : Arv Z h360 b60 k60 .char (10 : Int32) [(.int 112), (.int 114), (.int 111), (.int 106), (.int 101), (.int 99), (.int 116), (.int 95), (.int ((i4 &&& (255 : Int32)).toUInt32.toUInt16.toUInt32.toInt32)), (.int 100)] (.int 0) := Arv.set Ar359 qk359 qs359 qn359 qh359 qg359 (fits_nar_char _) W360 8 rfl (Nat.le_of_ble_eq_true rfl)
            rw [i2c_mask] at V360
            have N360 := Fr.snoc X360 N93 g_b60
            have K361 := K227.wr W360 (Or.inr sz_b60)
            have O361 := O227.wr W360 g_b60
            have pre362 : ∀ tz_, Steps p.tables e below (T360.setTop (mkF m 221 #[.val (.int i0), .val (.long j1), .second, .val (.int i3), .val (.int i4), .val (.ref b31), .val (.ref b60), .val (.int ti), .val (.int 0), .val (.int 8), .val (.int (i4 &&& (255 : Int32))), .unset, .unset, .unset, .unset] [])) tz_ → Steps p.tables e below (s₁.setTop (entryFrame m #[(.int i0), (.long j1), (.int i3), (.int i4)] maxLocals)) tz_ := fun tz_ kk => pre353 tz_ (by
              show Steps p.tables e below (T93.setTop (mkF m 204 #[.val (.int i0), .val (.long j1), .second, .val (.int i3), .val (.int i4), .val (.ref b31), .val (.ref b60), .val (.int ti), .val (.int 1), .val (.int 8), .val (.int (i4 &&& (255 : Int32))), .unset, .unset, .unset, .unset] [(.int (i4 &&& (255 : Int32))), (.int 105)])) _
              refine XS.icmpYes X93.here hx rfl (pc0 := 204) (pc' := 211) rfl (hb hby at_204) rfl (feq hc354).2 (by decide) (by decide) ?_
              refine XS.iconst X93.here hx rfl (hb hby at_211) ?_
              show Steps p.tables e below (T93.setTop (mkF m 212 #[.val (.int i0), .val (.long j1), .second, .val (.int i3), .val (.int i4), .val (.ref b31), .val (.ref b60), .val (.int ti), .val (.int 1), .val (.int 8), .val (.int (i4 &&& (255 : Int32))), .unset, .unset, .unset, .unset] [(.int 0)])) _
              refine XS.istore X93.here hx rfl (hb hby at_212) rfl (l' := #[.val (.int i0), .val (.long j1), .second, .val (.int i3), .val (.int i4), .val (.ref b31), .val (.ref b60), .val (.int ti), .val (.int 0), .val (.int 8), .val (.int (i4 &&& (255 : Int32))), .unset, .unset, .unset, .unset]) rfl ?_
              refine XS.aload X93.here hx rfl (hb hby at_214) rfl rfl ?_
              refine XS.iload X93.here hx rfl (hb hby at_216) rfl ?_
              refine XS.iload X93.here hx rfl (hb hby at_218) rfl ?_
              show Steps p.tables e below (T93.setTop (mkF m 220 #[.val (.int i0), .val (.long j1), .second, .val (.int i3), .val (.int i4), .val (.ref b31), .val (.ref b60), .val (.int ti), .val (.int 0), .val (.int 8), .val (.int (i4 &&& (255 : Int32))), .unset, .unset, .unset, .unset] [(.int (i4 &&& (255 : Int32))), (.int 8), (.ref b60)])) _
              refine st360 _ ?_
              exact kk)
            exact tail229 ⟨(0 : Int32), (.val (.int 8)), (.val (.int (i4 &&& (255 : Int32)))), (112 : Int32), (114 : Int32), (111 : Int32), (106 : Int32), (101 : Int32), (99 : Int32), (116 : Int32), (95 : Int32), (i4 &&& (255 : Int32)), (100 : Int32), T360, _, X360.more (by decide) (by decide), N360, (by rw [e360]; exact ((Keep.refl T93.heap [b60]).wr W360 (Or.inl (List.mem_of_getElem? (i := 0) rfl)))), pre362, (by rw [e360]; exact V360), ⟨fun h => absurd rfl h, fun _ => ⟨8, _, by decide, rfl, hc354⟩⟩, (One.val rfl), (One.val rfl), (by unfold Ch; decide), (by unfold Ch; decide), (by unfold Ch; decide), (by unfold Ch; decide), (by unfold Ch; decide), (by unfold Ch; decide), (by unfold Ch; decide), (by unfold Ch; decide), own_chm i4, (by unfold Ch; decide)⟩
        · skip
          have pre363 := pre235
          rw [hk236] at pre363
          have ne364 : b60 ≠ b31 := (Ne.symm (Nat.ne_of_lt (Nat.lt_of_lt_of_le V58.lt (Nat.le_of_eq q60.symm))))
          have f365 := (V90.keep Kj93 (ninS ne364 nin0))
          obtain ⟨cl366, Ar366, qk366, qs366, qn366, qh366, qg366⟩ := id f365
          have hin366 : ¬ ((9 : Int32) < 0 ∨ cl366.slots.size ≤ ((9 : Int32)).toNatClampNeg) := inb_of qs366 ⟨by decide, by decide⟩
          have hat366 : cl366.slots[((9 : Int32)).toNatClampNeg]? = some (.int 100) := qh366.at hin366 rfl
          have pre367 : ∀ tz_, Steps p.tables e below (T93.setTop (mkF m 204 #[.val (.int i0), .val (.long j1), .second, .val (.int i3), .val (.int i4), .val (.ref b31), .val (.ref b60), .val (.int ti), .val (.int 1), .val (.int 9), .val (.int (i4 &&& (255 : Int32))), .unset, .unset, .unset, .unset] [(.int (i4 &&& (255 : Int32))), (.int 100)])) tz_ → Steps p.tables e below (s₁.setTop (entryFrame m #[(.int i0), (.long j1), (.int i3), (.int i4)] maxLocals)) tz_ := fun tz_ kk => pre363 tz_ (by
            show Steps p.tables e below (T93.setTop (mkF m 197 #[.val (.int i0), .val (.long j1), .second, .val (.int i3), .val (.int i4), .val (.ref b31), .val (.ref b60), .val (.int ti), .val (.int 1), .val (.int 9), .val (.int (i4 &&& (255 : Int32))), .unset, .unset, .unset, .unset] [])) _
            refine XS.aload X93.here hx rfl (hb hby at_197) rfl rfl ?_
            refine XS.iload X93.here hx rfl (hb hby at_199) rfl ?_
            show Steps p.tables e below (T93.setTop (mkF m 201 #[.val (.int i0), .val (.long j1), .second, .val (.int i3), .val (.int i4), .val (.ref b31), .val (.ref b60), .val (.int ti), .val (.int 1), .val (.int 9), .val (.int (i4 &&& (255 : Int32))), .unset, .unset, .unset, .unset] [(.int 9), (.ref b60)])) _
            refine X93.caload hx (j := (9 : Int32)) (v := (.int 100)) Ar366.1 (State.isArrayOf_alike hZ.alike Ar366.2.1) Ar366.2.2 hin366 hat366 (g := (mkF m 201 #[.val (.int i0), .val (.long j1), .second, .val (.int i3), .val (.int i4), .val (.ref b31), .val (.ref b60), .val (.int ti), .val (.int 1), .val (.int 9), .val (.int (i4 &&& (255 : Int32))), .unset, .unset, .unset, .unset] [(.int 9), (.ref b60)])) rfl rfl (hb hby at_201) _ ?_
            show Steps p.tables e below (T93.setTop (mkF m 202 #[.val (.int i0), .val (.long j1), .second, .val (.int i3), .val (.int i4), .val (.ref b31), .val (.ref b60), .val (.int ti), .val (.int 1), .val (.int 9), .val (.int (i4 &&& (255 : Int32))), .unset, .unset, .unset, .unset] [(.int 100)])) _
            refine XS.iload X93.here hx rfl (hb hby at_202) rfl ?_
            exact kk)
          by_cases hc368 : (100 : Int32) = (i4 &&& (255 : Int32))
          · skip
            obtain ⟨cl369, Ar369, qk369, qs369, qn369, qh369, qg369⟩ := id f365
            have hin369 : ¬ ((9 : Int32) < 0 ∨ cl369.slots.size ≤ ((9 : Int32)).toNatClampNeg) := inb_of qs369 ⟨by decide, by decide⟩
            obtain ⟨T370, h370, X370, e370, W370, st370⟩ := stC X93 hx hZ rfl Ar369 (j := (9 : Int32)) hin369 (g := (mkF m 220 #[.val (.int i0), .val (.long j1), .second, .val (.int i3), .val (.int i4), .val (.ref b31), .val (.ref b60), .val (.int ti), .val (.int 1), .val (.int 9), .val (.int (i4 &&& (255 : Int32))), .unset, .unset, .unset, .unset] [(.int (i4 &&& (255 : Int32))), (.int 9), (.ref b60)])) rfl rfl (hb hby at_220)
            have V370 : Arv Z h370 b60 k60 .char (10 : Int32) [(.int 112), (.int 114), (.int 111), (.int 106), (.int 101), (.int 99), (.int 116), (.int 95), (.int 105), (.int ((i4 &&& (255 : Int32)).toUInt32.toUInt16.toUInt32.toInt32))] (.int 0) := Arv.set Ar369 qk369 qs369 qn369 qh369 qg369 (fits_nar_char _) W370 9 rfl (Nat.le_of_ble_eq_true rfl)
            rw [i2c_mask] at V370
            have N370 := Fr.snoc X370 N93 g_b60
            have K371 := K227.wr W370 (Or.inr sz_b60)
            have O371 := O227.wr W370 g_b60
            have pre372 : ∀ tz_, Steps p.tables e below (T370.setTop (mkF m 221 #[.val (.int i0), .val (.long j1), .second, .val (.int i3), .val (.int i4), .val (.ref b31), .val (.ref b60), .val (.int ti), .val (.int 1), .val (.int 9), .val (.int (i4 &&& (255 : Int32))), .unset, .unset, .unset, .unset] [])) tz_ → Steps p.tables e below (s₁.setTop (entryFrame m #[(.int i0), (.long j1), (.int i3), (.int i4)] maxLocals)) tz_ := fun tz_ kk => pre367 tz_ (by
              show Steps p.tables e below (T93.setTop (mkF m 204 #[.val (.int i0), .val (.long j1), .second, .val (.int i3), .val (.int i4), .val (.ref b31), .val (.ref b60), .val (.int ti), .val (.int 1), .val (.int 9), .val (.int (i4 &&& (255 : Int32))), .unset, .unset, .unset, .unset] [(.int (i4 &&& (255 : Int32))), (.int 100)])) _
              refine XS.icmpNo X93.here hx rfl (hb hby at_204) rfl (teq hc368).2 ?_
              refine XS.iconst X93.here hx rfl (hb hby at_207) ?_
              refine XS.goto X93.here hx rfl (pc0 := 208) (pc' := 212) rfl (hb hby at_208) (by decide) (by decide) ?_
              show Steps p.tables e below (T93.setTop (mkF m 212 #[.val (.int i0), .val (.long j1), .second, .val (.int i3), .val (.int i4), .val (.ref b31), .val (.ref b60), .val (.int ti), .val (.int 1), .val (.int 9), .val (.int (i4 &&& (255 : Int32))), .unset, .unset, .unset, .unset] [(.int 1)])) _
              refine XS.istore X93.here hx rfl (hb hby at_212) rfl (l' := #[.val (.int i0), .val (.long j1), .second, .val (.int i3), .val (.int i4), .val (.ref b31), .val (.ref b60), .val (.int ti), .val (.int 1), .val (.int 9), .val (.int (i4 &&& (255 : Int32))), .unset, .unset, .unset, .unset]) rfl ?_
              refine XS.aload X93.here hx rfl (hb hby at_214) rfl rfl ?_
              refine XS.iload X93.here hx rfl (hb hby at_216) rfl ?_
              refine XS.iload X93.here hx rfl (hb hby at_218) rfl ?_
              show Steps p.tables e below (T93.setTop (mkF m 220 #[.val (.int i0), .val (.long j1), .second, .val (.int i3), .val (.int i4), .val (.ref b31), .val (.ref b60), .val (.int ti), .val (.int 1), .val (.int 9), .val (.int (i4 &&& (255 : Int32))), .unset, .unset, .unset, .unset] [(.int (i4 &&& (255 : Int32))), (.int 9), (.ref b60)])) _
              refine st370 _ ?_
              exact kk)
            exact tail229 ⟨(1 : Int32), (.val (.int 9)), (.val (.int (i4 &&& (255 : Int32)))), (112 : Int32), (114 : Int32), (111 : Int32), (106 : Int32), (101 : Int32), (99 : Int32), (116 : Int32), (95 : Int32), (105 : Int32), (i4 &&& (255 : Int32)), T370, _, X370.more (by decide) (by decide), N370, (by rw [e370]; exact ((Keep.refl T93.heap [b60]).wr W370 (Or.inl (List.mem_of_getElem? (i := 0) rfl)))), pre372, (by rw [e370]; exact V370), ⟨fun _ => by rw [← hc368]; rfl, fun h => absurd h (by decide)⟩, (One.val rfl), (One.val rfl), (by unfold Ch; decide), (by unfold Ch; decide), (by unfold Ch; decide), (by unfold Ch; decide), (by unfold Ch; decide), (by unfold Ch; decide), (by unfold Ch; decide), (by unfold Ch; decide), (by unfold Ch; decide), own_chm i4⟩
          · skip
            obtain ⟨cl373, Ar373, qk373, qs373, qn373, qh373, qg373⟩ := id f365
            have hin373 : ¬ ((9 : Int32) < 0 ∨ cl373.slots.size ≤ ((9 : Int32)).toNatClampNeg) := inb_of qs373 ⟨by decide, by decide⟩
            obtain ⟨T374, h374, X374, e374, W374, st374⟩ := stC X93 hx hZ rfl Ar373 (j := (9 : Int32)) hin373 (g := (mkF m 220 #[.val (.int i0), .val (.long j1), .second, .val (.int i3), .val (.int i4), .val (.ref b31), .val (.ref b60), .val (.int ti), .val (.int 0), .val (.int 9), .val (.int (i4 &&& (255 : Int32))), .unset, .unset, .unset, .unset] [(.int (i4 &&& (255 : Int32))), (.int 9), (.ref b60)])) rfl rfl (hb hby at_220)
            have V374 : Arv Z h374 b60 k60 .char (10 : Int32) [(.int 112), (.int 114), (.int 111), (.int 106), (.int 101), (.int 99), (.int 116), (.int 95), (.int 105), (.int ((i4 &&& (255 : Int32)).toUInt32.toUInt16.toUInt32.toInt32))] (.int 0) := Arv.set Ar373 qk373 qs373 qn373 qh373 qg373 (fits_nar_char _) W374 9 rfl (Nat.le_of_ble_eq_true rfl)
            rw [i2c_mask] at V374
            have N374 := Fr.snoc X374 N93 g_b60
            have K375 := K227.wr W374 (Or.inr sz_b60)
            have O375 := O227.wr W374 g_b60
            have pre376 : ∀ tz_, Steps p.tables e below (T374.setTop (mkF m 221 #[.val (.int i0), .val (.long j1), .second, .val (.int i3), .val (.int i4), .val (.ref b31), .val (.ref b60), .val (.int ti), .val (.int 0), .val (.int 9), .val (.int (i4 &&& (255 : Int32))), .unset, .unset, .unset, .unset] [])) tz_ → Steps p.tables e below (s₁.setTop (entryFrame m #[(.int i0), (.long j1), (.int i3), (.int i4)] maxLocals)) tz_ := fun tz_ kk => pre367 tz_ (by
              show Steps p.tables e below (T93.setTop (mkF m 204 #[.val (.int i0), .val (.long j1), .second, .val (.int i3), .val (.int i4), .val (.ref b31), .val (.ref b60), .val (.int ti), .val (.int 1), .val (.int 9), .val (.int (i4 &&& (255 : Int32))), .unset, .unset, .unset, .unset] [(.int (i4 &&& (255 : Int32))), (.int 100)])) _
              refine XS.icmpYes X93.here hx rfl (pc0 := 204) (pc' := 211) rfl (hb hby at_204) rfl (feq hc368).2 (by decide) (by decide) ?_
              refine XS.iconst X93.here hx rfl (hb hby at_211) ?_
              refine XS.istore X93.here hx rfl (hb hby at_212) rfl (l' := #[.val (.int i0), .val (.long j1), .second, .val (.int i3), .val (.int i4), .val (.ref b31), .val (.ref b60), .val (.int ti), .val (.int 0), .val (.int 9), .val (.int (i4 &&& (255 : Int32))), .unset, .unset, .unset, .unset]) rfl ?_
              refine XS.aload X93.here hx rfl (hb hby at_214) rfl rfl ?_
              show Steps p.tables e below (T93.setTop (mkF m 216 #[.val (.int i0), .val (.long j1), .second, .val (.int i3), .val (.int i4), .val (.ref b31), .val (.ref b60), .val (.int ti), .val (.int 0), .val (.int 9), .val (.int (i4 &&& (255 : Int32))), .unset, .unset, .unset, .unset] [(.ref b60)])) _
              refine XS.iload X93.here hx rfl (hb hby at_216) rfl ?_
              refine XS.iload X93.here hx rfl (hb hby at_218) rfl ?_
              show Steps p.tables e below (T93.setTop (mkF m 220 #[.val (.int i0), .val (.long j1), .second, .val (.int i3), .val (.int i4), .val (.ref b31), .val (.ref b60), .val (.int ti), .val (.int 0), .val (.int 9), .val (.int (i4 &&& (255 : Int32))), .unset, .unset, .unset, .unset] [(.int (i4 &&& (255 : Int32))), (.int 9), (.ref b60)])) _
              refine st374 _ ?_
              exact kk)
            exact tail229 ⟨(0 : Int32), (.val (.int 9)), (.val (.int (i4 &&& (255 : Int32)))), (112 : Int32), (114 : Int32), (111 : Int32), (106 : Int32), (101 : Int32), (99 : Int32), (116 : Int32), (95 : Int32), (105 : Int32), (i4 &&& (255 : Int32)), T374, _, X374.more (by decide) (by decide), N374, (by rw [e374]; exact ((Keep.refl T93.heap [b60]).wr W374 (Or.inl (List.mem_of_getElem? (i := 0) rfl)))), pre376, (by rw [e374]; exact V374), ⟨fun h => absurd rfl h, fun _ => ⟨9, _, by decide, rfl, hc368⟩⟩, (One.val rfl), (One.val rfl), (by unfold Ch; decide), (by unfold Ch; decide), (by unfold Ch; decide), (by unfold Ch; decide), (by unfold Ch; decide), (by unfold Ch; decide), (by unfold Ch; decide), (by unfold Ch; decide), (by unfold Ch; decide), own_chm i4⟩
    · skip
      rintro ⟨pi, pa, pb, y0, y1, y2, y3, y4, y5, y6, y7, y8, y9, T229, Lq229, X229, N229, Kj229, pre229, j229_0, hp, hopa, hopb, hc_y0, hc_y1, hc_y2, hc_y3, hc_y4, hc_y5, hc_y6, hc_y7, hc_y8, hc_y9⟩
      have K377 := K227.trans Kj229 (allS (Or.inr sz_b60) all0)
      have O377 := O227.keep Kj229 (allS g_b60 all0)
      obtain ⟨T378, h378, k378, X378, e378, E378, A378, st378⟩ := newP X229 hx hZ (hw _ (mg (i := 0) rfl)) rfl (g := (mkF m 223 #[.val (.int i0), .val (.long j1), .second, .val (.int i3), .val (.int i4), .val (.ref b31), .val (.ref b60), .val (.int ti), .val (.int pi), pa, pb, .unset, .unset, .unset, .unset] [(.int 25)])) rfl (hb hby at_223) rfl (by decide) (cap := 25) (by decide) (by decide) (by decide) (by decide)
      obtain ⟨b378, q378⟩ : ∃ z, z = T229.heap.size := ⟨_, rfl⟩
      rw [← q378] at A378 st378
      have g_b378 : n0 ≤ b378 := Nat.le_trans (own_le O377) (Nat.le_of_eq q378.symm)
      have sz_b378 : h0.size ≤ b378 := Nat.le_trans K377.1 (Nat.le_of_eq q378.symm)
      have V378 : Arv Z h378 b378 k378 .char (25 : Int32) [(.int 0), (.int 0), (.int 0), (.int 0), (.int 0), (.int 0), (.int 0), (.int 0), (.int 0), (.int 0), (.int 0), (.int 0), (.int 0), (.int 0), (.int 0), (.int 0), (.int 0), (.int 0), (.int 0), (.int 0), (.int 0), (.int 0), (.int 0), (.int 0), (.int 0)] (.int 0) := (Arv.new A378 (by decide)).pad (pad_rep [] (.int 0) 25)
      have K379 := K377.ext E378
      have O379 := O377.ext E378
      have pre380 : ∀ tz_, Steps p.tables e below (T378.setTop (mkF m 230 #[.val (.int i0), .val (.long j1), .second, .val (.int i3), .val (.int i4), .val (.ref b31), .val (.ref b60), .val (.int ti), .val (.int pi), .val (.ref b378), pb, .unset, .unset, .unset, .unset] [(.int (i0 &&& (1 : Int32)))])) tz_ → Steps p.tables e below (s₁.setTop (entryFrame m #[(.int i0), (.long j1), (.int i3), (.int i4)] maxLocals)) tz_ := fun tz_ kk => pre229 tz_ (by
        show Steps p.tables e below (T229.setTop (mkF m 221 #[.val (.int i0), .val (.long j1), .second, .val (.int i3), .val (.int i4), .val (.ref b31), .val (.ref b60), .val (.int ti), .val (.int pi), pa, pb, .unset, .unset, .unset, .unset] [])) _
        refine XS.bipush X229.here hx rfl (hb hby at_221) ?_
        show Steps p.tables e below (T229.setTop (mkF m 223 #[.val (.int i0), .val (.long j1), .second, .val (.int i3), .val (.int i4), .val (.ref b31), .val (.ref b60), .val (.int ti), .val (.int pi), pa, pb, .unset, .unset, .unset, .unset] [(.int 25)])) _
        refine st378 _ ?_
        refine XS.astoreS X378.here hx rfl (hb hby at_225) rfl rfl rfl rfl hopa ?_
        refine XS.iloadN X378.here hx rfl (hb hby at_227) rfl ?_
        refine XS.iconst X378.here hx rfl (hb hby at_228) ?_
        show Steps p.tables e below (T378.setTop (mkF m 229 #[.val (.int i0), .val (.long j1), .second, .val (.int i3), .val (.int i4), .val (.ref b31), .val (.ref b60), .val (.int ti), .val (.int pi), .val (.ref b378), pb, .unset, .unset, .unset, .unset] [(.int 1), (.int i0)])) _
        refine XS.iand X378.here hx rfl (hb hby at_229) rfl ?_
        exact kk)
      by_cases hc381 : (i0 &&& (1 : Int32)) = (0 : Int32)
      · skip
        -- pc 273: OwnerFilterWrittenInPinLaw.gap
        obtain ⟨_, _, ⟨T382, L382, k382, n382⟩, -, X382, ⟨Lc382, hQ382, l382, y382, z382⟩, st382⟩ := Jvm.LawKit.callS X378 hx (y := (⟨"com/example/ulinzi/ulinzi/model/OwnerFilterWrittenInPinLaw", "gap", "(JI)C"⟩ : MethodName)) hown (mvT hZ (hw _ (mg (i := 1) rfl))) (mvT hZ (hw _ (mg (i := 2) rfl))) (mvT hZ (hw _ (mg (i := 3) rfl))) (mvT hZ (hw _ (mg (i := 4) rfl))) (by decide) (backOf (W := 2) (rm1 l Z av0 hw [] j1 (0 : Int32) h378 n0 (own_le O379) ) hZ (hw _ (mg (i := 4) rfl)) (hw _ (mg (i := 3) rfl)) (by decide) (by decide)) (g := (mkF m 273 #[.val (.int i0), .val (.long j1), .second, .val (.int i3), .val (.int i4), .val (.ref b31), .val (.ref b60), .val (.int ti), .val (.int pi), .val (.ref b378), .val (.int 1), .val (.ref b31), .val (.ref b60), .unset, .unset] [(.int 0), (.long j1), (.int 0), (.ref b378)])) rfl (by rw [hml]; rfl) (argsL := [(.long j1), (.int 0)]) (rest := [(.int 0), (.ref b378)]) (lenOf pd_0 rfl) rfl (by show 2 * 0 + _ ≤ _; exact Nat.le_of_eq rfl) (hb hby at_273) (fun vmx hWx => ⟨rfl, e378, (by decide : 3 + 0 ≤ _), (by decide : 44 + 0 ≤ _)⟩)
        dsimp only [Pt.U, Pt.locs, Pt.cells, Pt.slots] at X382 l382 y382 z382 st382 hQ382
        subst l382 y382 z382
        obtain ⟨rv382, Nq382, Kq382⟩ := hQ382
        subst rv382
        have N382 := Fr.app N229 Nq382
        obtain ⟨cl383, Ar383, qk383, qs383, qn383, qh383, qg383⟩ := id V378
        have hin383 : ¬ ((0 : Int32) < 0 ∨ cl383.slots.size ≤ ((0 : Int32)).toNatClampNeg) := inb_of qs383 ⟨by decide, by decide⟩
        obtain ⟨T384, h384, X384, e384, W384, st384⟩ := stC X382 hx hZ Kq382 Ar383 (j := (0 : Int32)) hin383 (g := (mkF m 276 #[.val (.int i0), .val (.long j1), .second, .val (.int i3), .val (.int i4), .val (.ref b31), .val (.ref b60), .val (.int ti), .val (.int pi), .val (.ref b378), .val (.int 1), .val (.ref b31), .val (.ref b60), .unset, .unset] [(.int (gapv j1 (0 : Int32))), (.int 0), (.ref b378)])) rfl rfl (hb hby at_276)
        have V384 : Arv Z h384 b378 k378 .char (25 : Int32) [(.int ((gapv j1 (0 : Int32)).toUInt32.toUInt16.toUInt32.toInt32)), (.int 0), (.int 0), (.int 0), (.int 0), (.int 0), (.int 0), (.int 0), (.int 0), (.int 0), (.int 0), (.int 0), (.int 0), (.int 0), (.int 0), (.int 0), (.int 0), (.int 0), (.int 0), (.int 0), (.int 0), (.int 0), (.int 0), (.int 0), (.int 0)] (.int 0) := Arv.set Ar383 qk383 qs383 qn383 qh383 qg383 (fits_nar_char _) W384 0 rfl (Nat.le_of_ble_eq_true rfl)
        rw [own_chn (own_gapch _ _)] at V384
        have N384 := Fr.snoc X384 N382 g_b378
        have K385 := K379.wr W384 (Or.inr sz_b378)
        have O385 := O379.wr W384 g_b378
        -- pc 282: OwnerFilterWrittenInPinLaw.gap
        obtain ⟨_, _, ⟨T386, L386, k386, n386⟩, -, X386, ⟨Lc386, hQ386, l386, y386, z386⟩, st386⟩ := Jvm.LawKit.callS X384 hx (y := (⟨"com/example/ulinzi/ulinzi/model/OwnerFilterWrittenInPinLaw", "gap", "(JI)C"⟩ : MethodName)) hown (mvT hZ (hw _ (mg (i := 1) rfl))) (mvT hZ (hw _ (mg (i := 2) rfl))) (mvT hZ (hw _ (mg (i := 3) rfl))) (mvT hZ (hw _ (mg (i := 4) rfl))) (by decide) (backOf (W := 2) (rm1 l Z av0 hw [] j1 (1 : Int32) h384 n0 (own_le O385) ) hZ (hw _ (mg (i := 4) rfl)) (hw _ (mg (i := 3) rfl)) (by decide) (by decide)) (g := (mkF m 282 #[.val (.int i0), .val (.long j1), .second, .val (.int i3), .val (.int i4), .val (.ref b31), .val (.ref b60), .val (.int ti), .val (.int pi), .val (.ref b378), .val (.int 1), .val (.ref b31), .val (.ref b60), .unset, .unset] [(.int 1), (.long j1), (.int 1), (.ref b378)])) rfl (by rw [hml]; rfl) (argsL := [(.long j1), (.int 1)]) (rest := [(.int 1), (.ref b378)]) (lenOf pd_0 rfl) rfl (by show 2 * 0 + _ ≤ _; exact Nat.le_of_eq rfl) (hb hby at_282) (fun vmx hWx => ⟨rfl, e384, (by decide : 3 + 0 ≤ _), (by decide : 44 + 0 ≤ _)⟩)
        dsimp only [Pt.U, Pt.locs, Pt.cells, Pt.slots] at X386 l386 y386 z386 st386 hQ386
        subst l386 y386 z386
        obtain ⟨rv386, Nq386, Kq386⟩ := hQ386
        subst rv386
        have N386 := Fr.app N384 Nq386
        obtain ⟨cl387, Ar387, qk387, qs387, qn387, qh387, qg387⟩ := id V384
        have hin387 : ¬ ((1 : Int32) < 0 ∨ cl387.slots.size ≤ ((1 : Int32)).toNatClampNeg) := inb_of qs387 ⟨by decide, by decide⟩
        obtain ⟨T388, h388, X388, e388, W388, st388⟩ := stC X386 hx hZ Kq386 Ar387 (j := (1 : Int32)) hin387 (g := (mkF m 285 #[.val (.int i0), .val (.long j1), .second, .val (.int i3), .val (.int i4), .val (.ref b31), .val (.ref b60), .val (.int ti), .val (.int pi), .val (.ref b378), .val (.int 1), .val (.ref b31), .val (.ref b60), .unset, .unset] [(.int (gapv j1 (1 : Int32))), (.int 1), (.ref b378)])) rfl rfl (hb hby at_285)
        have V388 : Arv Z h388 b378 k378 .char (25 : Int32) [(.int (gapv j1 (0 : Int32))), (.int ((gapv j1 (1 : Int32)).toUInt32.toUInt16.toUInt32.toInt32)), (.int 0), (.int 0), (.int 0), (.int 0), (.int 0), (.int 0), (.int 0), (.int 0), (.int 0), (.int 0), (.int 0), (.int 0), (.int 0), (.int 0), (.int 0), (.int 0), (.int 0), (.int 0), (.int 0), (.int 0), (.int 0), (.int 0), (.int 0)] (.int 0) := Arv.set Ar387 qk387 qs387 qn387 qh387 qg387 (fits_nar_char _) W388 1 rfl (Nat.le_of_ble_eq_true rfl)
        rw [own_chn (own_gapch _ _)] at V388
        have N388 := Fr.snoc X388 N386 g_b378
        have K389 := K385.wr W388 (Or.inr sz_b378)
        have O389 := O385.wr W388 g_b378
        have ne390 : b31 ≠ b60 := (Nat.ne_of_lt (Nat.lt_of_lt_of_le V58.lt (Nat.le_of_eq q60.symm)))
        have ne391 : b31 ≠ b378 := (Nat.ne_of_lt (Nat.lt_of_lt_of_le (Nat.lt_of_lt_of_le j93_0.lt Kj229.1) (Nat.le_of_eq q378.symm)))
        have f392 := ((((j93_0.keep Kj229 (ninS ne390 nin0)).ext E378).other W384 ne391).other W388 ne391)
        -- pc 291: OwnerFilterWrittenInPinLaw.place
        obtain ⟨_, _, ⟨T393, L393, k393, n393⟩, -, X393, ⟨Lc393, hQ393, l393, y393, z393⟩, st393⟩ := Jvm.LawKit.callS X388 hx (y := (⟨"com/example/ulinzi/ulinzi/model/OwnerFilterWrittenInPinLaw", "place", "([CI[C)I"⟩ : MethodName)) hown (mvT hZ (hw _ (mg (i := 6) rfl))) (mvT hZ (hw _ (mg (i := 7) rfl))) (mvT hZ (hw _ (mg (i := 3) rfl))) (mvT hZ (hw _ (mg (i := 8) rfl))) (by decide) (backOf (W := 0) (place_2_9 l Z av0 hw [] b378 b31 (gapv j1 (0 : Int32)) (gapv j1 (1 : Int32)) (0 : Int32) (0 : Int32) (0 : Int32) (0 : Int32) (0 : Int32) (0 : Int32) (0 : Int32) (0 : Int32) (0 : Int32) (0 : Int32) (0 : Int32) (0 : Int32) (0 : Int32) (0 : Int32) (0 : Int32) (0 : Int32) (0 : Int32) (0 : Int32) (0 : Int32) (0 : Int32) (0 : Int32) (0 : Int32) (0 : Int32) x0 x1 x2 x3 x4 x5 x6 x7 x8 k378 k31 h388 n0 (own_le O389) V388 f392 (Ne.symm ne391) g_b378 (hc_x0 : Ch x0) (hc_x1 : Ch x1) (hc_x2 : Ch x2) (hc_x3 : Ch x3) (hc_x4 : Ch x4) (hc_x5 : Ch x5) (hc_x6 : Ch x6) (hc_x7 : Ch x7) (hc_x8 : Ch x8)) hZ (hw _ (mg (i := 8) rfl)) (hw _ (mg (i := 3) rfl)) (by decide) (by decide)) (g := (mkF m 291 #[.val (.int i0), .val (.long j1), .second, .val (.int i3), .val (.int i4), .val (.ref b31), .val (.ref b60), .val (.int ti), .val (.int pi), .val (.ref b378), .val (.int 1), .val (.ref b31), .val (.ref b60), .unset, .unset] [(.ref b31), (.int 2), (.ref b378)])) rfl (by rw [hml]; rfl) (argsL := [(.ref b378), (.int 2), (.ref b31)]) (rest := []) (lenOf pd_1 rfl) rfl (by show 2 * 0 + _ ≤ _; exact Nat.le_of_eq rfl) (hb hby at_291) (fun vmx hWx => ⟨rfl, e388, (by decide : 3 + 0 ≤ _), (by decide : 44 + 0 ≤ _)⟩)
        dsimp only [Pt.U, Pt.locs, Pt.cells, Pt.slots] at X393 l393 y393 z393 st393 hQ393
        subst l393 y393 z393
        obtain ⟨rv393, Nq393, Kq393, u393_0⟩ := hQ393
        subst rv393
        have N393 := Fr.app N388 Nq393
        have K394 := K389.trans Kq393 (allS (Or.inr sz_b378) all0)
        have O394 := O389.keep Kq393 (allS g_b378 all0)
        -- pc 302: OwnerFilterWrittenInPinLaw.gap
        obtain ⟨_, _, ⟨T395, L395, k395, n395⟩, -, X395, ⟨Lc395, hQ395, l395, y395, z395⟩, st395⟩ := Jvm.LawKit.callS X393 hx (y := (⟨"com/example/ulinzi/ulinzi/model/OwnerFilterWrittenInPinLaw", "gap", "(JI)C"⟩ : MethodName)) hown (mvT hZ (hw _ (mg (i := 1) rfl))) (mvT hZ (hw _ (mg (i := 2) rfl))) (mvT hZ (hw _ (mg (i := 3) rfl))) (mvT hZ (hw _ (mg (i := 4) rfl))) (by decide) (backOf (W := 2) (rm1 l Z av0 hw [] j1 (2 : Int32) T393.heap n0 (own_le O394) ) hZ (hw _ (mg (i := 4) rfl)) (hw _ (mg (i := 3) rfl)) (by decide) (by decide)) (g := (mkF m 302 #[.val (.int i0), .val (.long j1), .second, .val (.int i3), .val (.int i4), .val (.ref b31), .val (.ref b60), .val (.int ti), .val (.int pi), .val (.ref b378), .val (.int 1), .val (.ref b31), .val (.ref b60), .val (.int 11), .unset] [(.int 2), (.long j1), (.int 11), (.ref b378)])) rfl (by rw [hml]; rfl) (argsL := [(.long j1), (.int 2)]) (rest := [(.int 11), (.ref b378)]) (lenOf pd_0 rfl) rfl (by show 2 * 0 + _ ≤ _; exact Nat.le_of_eq rfl) (hb hby at_302) (fun vmx hWx => ⟨rfl, rfl, (by decide : 3 + 0 ≤ _), (by decide : 44 + 0 ≤ _)⟩)
        dsimp only [Pt.U, Pt.locs, Pt.cells, Pt.slots] at X395 l395 y395 z395 st395 hQ395
        subst l395 y395 z395
        obtain ⟨rv395, Nq395, Kq395⟩ := hQ395
        subst rv395
        have N395 := Fr.app N393 Nq395
        obtain ⟨cl396, Ar396, qk396, qs396, qn396, qh396, qg396⟩ := id u393_0
        have hin396 : ¬ ((11 : Int32) < 0 ∨ cl396.slots.size ≤ ((11 : Int32)).toNatClampNeg) := inb_of qs396 ⟨by decide, by decide⟩
        obtain ⟨T397, h397, X397, e397, W397, st397⟩ := stC X395 hx hZ Kq395 Ar396 (j := (11 : Int32)) hin396 (g := (mkF m 305 #[.val (.int i0), .val (.long j1), .second, .val (.int i3), .val (.int i4), .val (.ref b31), .val (.ref b60), .val (.int ti), .val (.int pi), .val (.ref b378), .val (.int 1), .val (.ref b31), .val (.ref b60), .val (.int 11), .unset] [(.int (gapv j1 (2 : Int32))), (.int 11), (.ref b378)])) rfl rfl (hb hby at_305)
        have V397 : Arv Z h397 b378 k378 .char (25 : Int32) [(.int (gapv j1 (0 : Int32))), (.int (gapv j1 (1 : Int32))), (.int x0), (.int x1), (.int x2), (.int x3), (.int x4), (.int x5), (.int x6), (.int x7), (.int x8), (.int ((gapv j1 (2 : Int32)).toUInt32.toUInt16.toUInt32.toInt32)), (.int 0), (.int 0), (.int 0), (.int 0), (.int 0), (.int 0), (.int 0), (.int 0), (.int 0), (.int 0), (.int 0), (.int 0), (.int 0)] (.int 0) := Arv.set Ar396 qk396 qs396 qn396 qh396 qg396 (fits_nar_char _) W397 11 rfl (Nat.le_of_ble_eq_true rfl)
        rw [own_chn (own_gapch _ _)] at V397
        have N397 := Fr.snoc X397 N395 g_b378
        have K398 := K394.wr W397 (Or.inr sz_b378)
        have O398 := O394.wr W397 g_b378
        -- pc 314: OwnerFilterWrittenInPinLaw.gap
        obtain ⟨_, _, ⟨T399, L399, k399, n399⟩, -, X399, ⟨Lc399, hQ399, l399, y399, z399⟩, st399⟩ := Jvm.LawKit.callS X397 hx (y := (⟨"com/example/ulinzi/ulinzi/model/OwnerFilterWrittenInPinLaw", "gap", "(JI)C"⟩ : MethodName)) hown (mvT hZ (hw _ (mg (i := 1) rfl))) (mvT hZ (hw _ (mg (i := 2) rfl))) (mvT hZ (hw _ (mg (i := 3) rfl))) (mvT hZ (hw _ (mg (i := 4) rfl))) (by decide) (backOf (W := 2) (rm1 l Z av0 hw [] j1 (3 : Int32) h397 n0 (own_le O398) ) hZ (hw _ (mg (i := 4) rfl)) (hw _ (mg (i := 3) rfl)) (by decide) (by decide)) (g := (mkF m 314 #[.val (.int i0), .val (.long j1), .second, .val (.int i3), .val (.int i4), .val (.ref b31), .val (.ref b60), .val (.int ti), .val (.int pi), .val (.ref b378), .val (.int 1), .val (.ref b31), .val (.ref b60), .val (.int 11), .unset] [(.int 3), (.long j1), (.int 12), (.ref b378)])) rfl (by rw [hml]; rfl) (argsL := [(.long j1), (.int 3)]) (rest := [(.int 12), (.ref b378)]) (lenOf pd_0 rfl) rfl (by show 2 * 0 + _ ≤ _; exact Nat.le_of_eq rfl) (hb hby at_314) (fun vmx hWx => ⟨rfl, e397, (by decide : 3 + 0 ≤ _), (by decide : 44 + 0 ≤ _)⟩)
        dsimp only [Pt.U, Pt.locs, Pt.cells, Pt.slots] at X399 l399 y399 z399 st399 hQ399
        subst l399 y399 z399
        obtain ⟨rv399, Nq399, Kq399⟩ := hQ399
        subst rv399
        have N399 := Fr.app N397 Nq399
        obtain ⟨cl400, Ar400, qk400, qs400, qn400, qh400, qg400⟩ := id V397
        have hin400 : ¬ ((12 : Int32) < 0 ∨ cl400.slots.size ≤ ((12 : Int32)).toNatClampNeg) := inb_of qs400 ⟨by decide, by decide⟩
        obtain ⟨T401, h401, X401, e401, W401, st401⟩ := stC X399 hx hZ Kq399 Ar400 (j := (12 : Int32)) hin400 (g := (mkF m 317 #[.val (.int i0), .val (.long j1), .second, .val (.int i3), .val (.int i4), .val (.ref b31), .val (.ref b60), .val (.int ti), .val (.int pi), .val (.ref b378), .val (.int 1), .val (.ref b31), .val (.ref b60), .val (.int 11), .unset] [(.int (gapv j1 (3 : Int32))), (.int 12), (.ref b378)])) rfl rfl (hb hby at_317)
        have V401 : Arv Z h401 b378 k378 .char (25 : Int32) [(.int (gapv j1 (0 : Int32))), (.int (gapv j1 (1 : Int32))), (.int x0), (.int x1), (.int x2), (.int x3), (.int x4), (.int x5), (.int x6), (.int x7), (.int x8), (.int (gapv j1 (2 : Int32))), (.int ((gapv j1 (3 : Int32)).toUInt32.toUInt16.toUInt32.toInt32)), (.int 0), (.int 0), (.int 0), (.int 0), (.int 0), (.int 0), (.int 0), (.int 0), (.int 0), (.int 0), (.int 0), (.int 0)] (.int 0) := Arv.set Ar400 qk400 qs400 qn400 qh400 qg400 (fits_nar_char _) W401 12 rfl (Nat.le_of_ble_eq_true rfl)
        rw [own_chn (own_gapch _ _)] at V401
        have N401 := Fr.snoc X401 N399 g_b378
        have K402 := K398.wr W401 (Or.inr sz_b378)
        have O402 := O398.wr W401 g_b378
        have ne403 : b60 ≠ b378 := (Nat.ne_of_lt (Nat.lt_of_lt_of_le j229_0.lt (Nat.le_of_eq q378.symm)))
        have f404 := ((((((j229_0.ext E378).other W384 ne403).other W388 ne403).keep Kq393 (ninS ne403 nin0)).other W397 ne403).other W401 ne403)
        -- pc 326: OwnerFilterWrittenInPinLaw.place
        obtain ⟨_, _, ⟨T405, L405, k405, n405⟩, -, X405, ⟨Lc405, hQ405, l405, y405, z405⟩, st405⟩ := Jvm.LawKit.callS X401 hx (y := (⟨"com/example/ulinzi/ulinzi/model/OwnerFilterWrittenInPinLaw", "place", "([CI[C)I"⟩ : MethodName)) hown (mvT hZ (hw _ (mg (i := 6) rfl))) (mvT hZ (hw _ (mg (i := 7) rfl))) (mvT hZ (hw _ (mg (i := 3) rfl))) (mvT hZ (hw _ (mg (i := 8) rfl))) (by decide) (backOf (W := 0) (place_13_10 l Z av0 hw [] b378 b60 (gapv j1 (0 : Int32)) (gapv j1 (1 : Int32)) x0 x1 x2 x3 x4 x5 x6 x7 x8 (gapv j1 (2 : Int32)) (gapv j1 (3 : Int32)) (0 : Int32) (0 : Int32) (0 : Int32) (0 : Int32) (0 : Int32) (0 : Int32) (0 : Int32) (0 : Int32) (0 : Int32) (0 : Int32) (0 : Int32) (0 : Int32) y0 y1 y2 y3 y4 y5 y6 y7 y8 y9 k378 k60 h401 n0 (own_le O402) V401 f404 (Ne.symm ne403) g_b378 (hc_y0 : Ch y0) (hc_y1 : Ch y1) (hc_y2 : Ch y2) (hc_y3 : Ch y3) (hc_y4 : Ch y4) (hc_y5 : Ch y5) (hc_y6 : Ch y6) (hc_y7 : Ch y7) (hc_y8 : Ch y8) (hc_y9 : Ch y9)) hZ (hw _ (mg (i := 8) rfl)) (hw _ (mg (i := 3) rfl)) (by decide) (by decide)) (g := (mkF m 326 #[.val (.int i0), .val (.long j1), .second, .val (.int i3), .val (.int i4), .val (.ref b31), .val (.ref b60), .val (.int ti), .val (.int pi), .val (.ref b378), .val (.int 1), .val (.ref b31), .val (.ref b60), .val (.int 11), .unset] [(.ref b60), (.int 13), (.ref b378)])) rfl (by rw [hml]; rfl) (argsL := [(.ref b378), (.int 13), (.ref b60)]) (rest := []) (lenOf pd_1 rfl) rfl (by show 2 * 0 + _ ≤ _; exact Nat.le_of_eq rfl) (hb hby at_326) (fun vmx hWx => ⟨rfl, e401, (by decide : 3 + 0 ≤ _), (by decide : 44 + 0 ≤ _)⟩)
        dsimp only [Pt.U, Pt.locs, Pt.cells, Pt.slots] at X405 l405 y405 z405 st405 hQ405
        subst l405 y405 z405
        obtain ⟨rv405, Nq405, Kq405, u405_0⟩ := hQ405
        subst rv405
        have N405 := Fr.app N401 Nq405
        have K406 := K402.trans Kq405 (allS (Or.inr sz_b378) all0)
        have O406 := O402.keep Kq405 (allS g_b378 all0)
        -- pc 337: OwnerFilterWrittenInPinLaw.gap
        obtain ⟨_, _, ⟨T407, L407, k407, n407⟩, -, X407, ⟨Lc407, hQ407, l407, y407, z407⟩, st407⟩ := Jvm.LawKit.callS X405 hx (y := (⟨"com/example/ulinzi/ulinzi/model/OwnerFilterWrittenInPinLaw", "gap", "(JI)C"⟩ : MethodName)) hown (mvT hZ (hw _ (mg (i := 1) rfl))) (mvT hZ (hw _ (mg (i := 2) rfl))) (mvT hZ (hw _ (mg (i := 3) rfl))) (mvT hZ (hw _ (mg (i := 4) rfl))) (by decide) (backOf (W := 2) (rm1 l Z av0 hw [] j1 (4 : Int32) T405.heap n0 (own_le O406) ) hZ (hw _ (mg (i := 4) rfl)) (hw _ (mg (i := 3) rfl)) (by decide) (by decide)) (g := (mkF m 337 #[.val (.int i0), .val (.long j1), .second, .val (.int i3), .val (.int i4), .val (.ref b31), .val (.ref b60), .val (.int ti), .val (.int pi), .val (.ref b378), .val (.int 1), .val (.ref b31), .val (.ref b60), .val (.int 23), .unset] [(.int 4), (.long j1), (.int 23), (.ref b378)])) rfl (by rw [hml]; rfl) (argsL := [(.long j1), (.int 4)]) (rest := [(.int 23), (.ref b378)]) (lenOf pd_0 rfl) rfl (by show 2 * 0 + _ ≤ _; exact Nat.le_of_eq rfl) (hb hby at_337) (fun vmx hWx => ⟨rfl, rfl, (by decide : 3 + 0 ≤ _), (by decide : 44 + 0 ≤ _)⟩)
        dsimp only [Pt.U, Pt.locs, Pt.cells, Pt.slots] at X407 l407 y407 z407 st407 hQ407
        subst l407 y407 z407
        obtain ⟨rv407, Nq407, Kq407⟩ := hQ407
        subst rv407
        have N407 := Fr.app N405 Nq407
        obtain ⟨cl408, Ar408, qk408, qs408, qn408, qh408, qg408⟩ := id u405_0
        have hin408 : ¬ ((23 : Int32) < 0 ∨ cl408.slots.size ≤ ((23 : Int32)).toNatClampNeg) := inb_of qs408 ⟨by decide, by decide⟩
        obtain ⟨T409, h409, X409, e409, W409, st409⟩ := stC X407 hx hZ Kq407 Ar408 (j := (23 : Int32)) hin408 (g := (mkF m 340 #[.val (.int i0), .val (.long j1), .second, .val (.int i3), .val (.int i4), .val (.ref b31), .val (.ref b60), .val (.int ti), .val (.int pi), .val (.ref b378), .val (.int 1), .val (.ref b31), .val (.ref b60), .val (.int 23), .unset] [(.int (gapv j1 (4 : Int32))), (.int 23), (.ref b378)])) rfl rfl (hb hby at_340)
        have V409 : Arv Z h409 b378 k378 .char (25 : Int32) [(.int (gapv j1 (0 : Int32))), (.int (gapv j1 (1 : Int32))), (.int x0), (.int x1), (.int x2), (.int x3), (.int x4), (.int x5), (.int x6), (.int x7), (.int x8), (.int (gapv j1 (2 : Int32))), (.int (gapv j1 (3 : Int32))), (.int y0), (.int y1), (.int y2), (.int y3), (.int y4), (.int y5), (.int y6), (.int y7), (.int y8), (.int y9), (.int ((gapv j1 (4 : Int32)).toUInt32.toUInt16.toUInt32.toInt32)), (.int 0)] (.int 0) := Arv.set Ar408 qk408 qs408 qn408 qh408 qg408 (fits_nar_char _) W409 23 rfl (Nat.le_of_ble_eq_true rfl)
        rw [own_chn (own_gapch _ _)] at V409
        have N409 := Fr.snoc X409 N407 g_b378
        have K410 := K406.wr W409 (Or.inr sz_b378)
        have O410 := O406.wr W409 g_b378
        -- pc 349: OwnerFilterWrittenInPinLaw.gap
        obtain ⟨_, _, ⟨T411, L411, k411, n411⟩, -, X411, ⟨Lc411, hQ411, l411, y411, z411⟩, st411⟩ := Jvm.LawKit.callS X409 hx (y := (⟨"com/example/ulinzi/ulinzi/model/OwnerFilterWrittenInPinLaw", "gap", "(JI)C"⟩ : MethodName)) hown (mvT hZ (hw _ (mg (i := 1) rfl))) (mvT hZ (hw _ (mg (i := 2) rfl))) (mvT hZ (hw _ (mg (i := 3) rfl))) (mvT hZ (hw _ (mg (i := 4) rfl))) (by decide) (backOf (W := 2) (rm1 l Z av0 hw [] j1 (5 : Int32) h409 n0 (own_le O410) ) hZ (hw _ (mg (i := 4) rfl)) (hw _ (mg (i := 3) rfl)) (by decide) (by decide)) (g := (mkF m 349 #[.val (.int i0), .val (.long j1), .second, .val (.int i3), .val (.int i4), .val (.ref b31), .val (.ref b60), .val (.int ti), .val (.int pi), .val (.ref b378), .val (.int 1), .val (.ref b31), .val (.ref b60), .val (.int 23), .unset] [(.int 5), (.long j1), (.int 24), (.ref b378)])) rfl (by rw [hml]; rfl) (argsL := [(.long j1), (.int 5)]) (rest := [(.int 24), (.ref b378)]) (lenOf pd_0 rfl) rfl (by show 2 * 0 + _ ≤ _; exact Nat.le_of_eq rfl) (hb hby at_349) (fun vmx hWx => ⟨rfl, e409, (by decide : 3 + 0 ≤ _), (by decide : 44 + 0 ≤ _)⟩)
        dsimp only [Pt.U, Pt.locs, Pt.cells, Pt.slots] at X411 l411 y411 z411 st411 hQ411
        subst l411 y411 z411
        obtain ⟨rv411, Nq411, Kq411⟩ := hQ411
        subst rv411
        have N411 := Fr.app N409 Nq411
        obtain ⟨cl412, Ar412, qk412, qs412, qn412, qh412, qg412⟩ := id V409
        have hin412 : ¬ ((24 : Int32) < 0 ∨ cl412.slots.size ≤ ((24 : Int32)).toNatClampNeg) := inb_of qs412 ⟨by decide, by decide⟩
        obtain ⟨T413, h413, X413, e413, W413, st413⟩ := stC X411 hx hZ Kq411 Ar412 (j := (24 : Int32)) hin412 (g := (mkF m 352 #[.val (.int i0), .val (.long j1), .second, .val (.int i3), .val (.int i4), .val (.ref b31), .val (.ref b60), .val (.int ti), .val (.int pi), .val (.ref b378), .val (.int 1), .val (.ref b31), .val (.ref b60), .val (.int 23), .unset] [(.int (gapv j1 (5 : Int32))), (.int 24), (.ref b378)])) rfl rfl (hb hby at_352)
        have V413 : Arv Z h413 b378 k378 .char (25 : Int32) [(.int (gapv j1 (0 : Int32))), (.int (gapv j1 (1 : Int32))), (.int x0), (.int x1), (.int x2), (.int x3), (.int x4), (.int x5), (.int x6), (.int x7), (.int x8), (.int (gapv j1 (2 : Int32))), (.int (gapv j1 (3 : Int32))), (.int y0), (.int y1), (.int y2), (.int y3), (.int y4), (.int y5), (.int y6), (.int y7), (.int y8), (.int y9), (.int (gapv j1 (4 : Int32))), (.int ((gapv j1 (5 : Int32)).toUInt32.toUInt16.toUInt32.toInt32))] (.int 0) := Arv.set Ar412 qk412 qs412 qn412 qh412 qg412 (fits_nar_char _) W413 24 rfl (Nat.le_of_ble_eq_true rfl)
        rw [own_chn (own_gapch _ _)] at V413
        have N413 := Fr.snoc X413 N411 g_b378
        have K414 := K410.wr W413 (Or.inr sz_b378)
        have O414 := O410.wr W413 g_b378
        have pre415 : ∀ tz_, Steps p.tables e below (T413.setTop (mkF m 356 #[.val (.int i0), .val (.long j1), .second, .val (.int i3), .val (.int i4), .val (.ref b31), .val (.ref b60), .val (.int ti), .val (.int pi), .val (.ref b378), .val (.int 1), .val (.ref b31), .val (.ref b60), .val (.int 23), .val .null] [])) tz_ → Steps p.tables e below (s₁.setTop (entryFrame m #[(.int i0), (.long j1), (.int i3), (.int i4)] maxLocals)) tz_ := fun tz_ kk => pre380 tz_ (by
          show Steps p.tables e below (T378.setTop (mkF m 230 #[.val (.int i0), .val (.long j1), .second, .val (.int i3), .val (.int i4), .val (.ref b31), .val (.ref b60), .val (.int ti), .val (.int pi), .val (.ref b378), pb, .unset, .unset, .unset, .unset] [(.int (i0 &&& (1 : Int32)))])) _
          refine XS.ifNo X378.here hx rfl (hb hby at_230) rfl ((if0 _ _).trans (teq hc381).2) ?_
          refine XS.iconst X378.here hx rfl (hb hby at_233) ?_
          refine XS.goto X378.here hx rfl (pc0 := 234) (pc' := 238) rfl (hb hby at_234) (by decide) (by decide) ?_
          show Steps p.tables e below (T378.setTop (mkF m 238 #[.val (.int i0), .val (.long j1), .second, .val (.int i3), .val (.int i4), .val (.ref b31), .val (.ref b60), .val (.int ti), .val (.int pi), .val (.ref b378), pb, .unset, .unset, .unset, .unset] [(.int 1)])) _
          refine XS.istoreS X378.here hx rfl (hb hby at_238) rfl rfl hopb ?_
          refine XS.iload X378.here hx rfl (hb hby at_240) rfl ?_
          show Steps p.tables e below (T378.setTop (mkF m 242 #[.val (.int i0), .val (.long j1), .second, .val (.int i3), .val (.int i4), .val (.ref b31), .val (.ref b60), .val (.int ti), .val (.int pi), .val (.ref b378), .val (.int 1), .unset, .unset, .unset, .unset] [(.int 1)])) _
          refine XS.ifNo X378.here hx rfl (hb hby at_242) rfl ((if0 _ _).trans (feq (by decide : ¬ ((1 : Int32) = (0 : Int32)))).1) ?_
          refine XS.aload X378.here hx rfl (hb hby at_245) rfl rfl ?_
          show Steps p.tables e below (T378.setTop (mkF m 247 #[.val (.int i0), .val (.long j1), .second, .val (.int i3), .val (.int i4), .val (.ref b31), .val (.ref b60), .val (.int ti), .val (.int pi), .val (.ref b378), .val (.int 1), .unset, .unset, .unset, .unset] [(.ref b31)])) _
          refine XS.goto X378.here hx rfl (pc0 := 247) (pc' := 252) rfl (hb hby at_247) (by decide) (by decide) ?_
          refine XS.astore X378.here hx rfl (hb hby at_252) rfl rfl (l' := #[.val (.int i0), .val (.long j1), .second, .val (.int i3), .val (.int i4), .val (.ref b31), .val (.ref b60), .val (.int ti), .val (.int pi), .val (.ref b378), .val (.int 1), .val (.ref b31), .unset, .unset, .unset]) rfl ?_
          refine XS.iload X378.here hx rfl (hb hby at_254) rfl ?_
          show Steps p.tables e below (T378.setTop (mkF m 256 #[.val (.int i0), .val (.long j1), .second, .val (.int i3), .val (.int i4), .val (.ref b31), .val (.ref b60), .val (.int ti), .val (.int pi), .val (.ref b378), .val (.int 1), .val (.ref b31), .unset, .unset, .unset] [(.int 1)])) _
          refine XS.ifNo X378.here hx rfl (hb hby at_256) rfl ((if0 _ _).trans (feq (by decide : ¬ ((1 : Int32) = (0 : Int32)))).1) ?_
          show Steps p.tables e below (T378.setTop (mkF m 259 #[.val (.int i0), .val (.long j1), .second, .val (.int i3), .val (.int i4), .val (.ref b31), .val (.ref b60), .val (.int ti), .val (.int pi), .val (.ref b378), .val (.int 1), .val (.ref b31), .unset, .unset, .unset] [])) _
          refine XS.aload X378.here hx rfl (hb hby at_259) rfl rfl ?_
          refine XS.goto X378.here hx rfl (pc0 := 261) (pc' := 266) rfl (hb hby at_261) (by decide) (by decide) ?_
          refine XS.astore X378.here hx rfl (hb hby at_266) rfl rfl (l' := #[.val (.int i0), .val (.long j1), .second, .val (.int i3), .val (.int i4), .val (.ref b31), .val (.ref b60), .val (.int ti), .val (.int pi), .val (.ref b378), .val (.int 1), .val (.ref b31), .val (.ref b60), .unset, .unset]) rfl ?_
          refine XS.aload X378.here hx rfl (hb hby at_268) rfl rfl ?_
          show Steps p.tables e below (T378.setTop (mkF m 270 #[.val (.int i0), .val (.long j1), .second, .val (.int i3), .val (.int i4), .val (.ref b31), .val (.ref b60), .val (.int ti), .val (.int pi), .val (.ref b378), .val (.int 1), .val (.ref b31), .val (.ref b60), .unset, .unset] [(.ref b378)])) _
          refine XS.iconst X378.here hx rfl (hb hby at_270) ?_
          refine XS.lloadN X378.here hx rfl (hb hby at_271) rfl ?_
          refine XS.iconst X378.here hx rfl (hb hby at_272) ?_
          show Steps p.tables e below (T378.setTop (mkF m 273 #[.val (.int i0), .val (.long j1), .second, .val (.int i3), .val (.int i4), .val (.ref b31), .val (.ref b60), .val (.int ti), .val (.int pi), .val (.ref b378), .val (.int 1), .val (.ref b31), .val (.ref b60), .unset, .unset] [(.int 0), (.long j1), (.int 0), (.ref b378)])) _
          refine st382 _ ?_
          show Steps p.tables e below (T382.setTop (mkF m 276 #[.val (.int i0), .val (.long j1), .second, .val (.int i3), .val (.int i4), .val (.ref b31), .val (.ref b60), .val (.int ti), .val (.int pi), .val (.ref b378), .val (.int 1), .val (.ref b31), .val (.ref b60), .unset, .unset] [(.int (gapv j1 (0 : Int32))), (.int 0), (.ref b378)])) _
          refine st384 _ ?_
          refine XS.aload X384.here hx rfl (hb hby at_277) rfl rfl ?_
          refine XS.iconst X384.here hx rfl (hb hby at_279) ?_
          refine XS.lloadN X384.here hx rfl (hb hby at_280) rfl ?_
          show Steps p.tables e below (T384.setTop (mkF m 281 #[.val (.int i0), .val (.long j1), .second, .val (.int i3), .val (.int i4), .val (.ref b31), .val (.ref b60), .val (.int ti), .val (.int pi), .val (.ref b378), .val (.int 1), .val (.ref b31), .val (.ref b60), .unset, .unset] [(.long j1), (.int 1), (.ref b378)])) _
          refine XS.iconst X384.here hx rfl (hb hby at_281) ?_
          show Steps p.tables e below (T384.setTop (mkF m 282 #[.val (.int i0), .val (.long j1), .second, .val (.int i3), .val (.int i4), .val (.ref b31), .val (.ref b60), .val (.int ti), .val (.int pi), .val (.ref b378), .val (.int 1), .val (.ref b31), .val (.ref b60), .unset, .unset] [(.int 1), (.long j1), (.int 1), (.ref b378)])) _
          refine st386 _ ?_
          show Steps p.tables e below (T386.setTop (mkF m 285 #[.val (.int i0), .val (.long j1), .second, .val (.int i3), .val (.int i4), .val (.ref b31), .val (.ref b60), .val (.int ti), .val (.int pi), .val (.ref b378), .val (.int 1), .val (.ref b31), .val (.ref b60), .unset, .unset] [(.int (gapv j1 (1 : Int32))), (.int 1), (.ref b378)])) _
          refine st388 _ ?_
          refine XS.aload X388.here hx rfl (hb hby at_286) rfl rfl ?_
          show Steps p.tables e below (T388.setTop (mkF m 288 #[.val (.int i0), .val (.long j1), .second, .val (.int i3), .val (.int i4), .val (.ref b31), .val (.ref b60), .val (.int ti), .val (.int pi), .val (.ref b378), .val (.int 1), .val (.ref b31), .val (.ref b60), .unset, .unset] [(.ref b378)])) _
          refine XS.iconst X388.here hx rfl (hb hby at_288) ?_
          refine XS.aload X388.here hx rfl (hb hby at_289) rfl rfl ?_
          show Steps p.tables e below (T388.setTop (mkF m 291 #[.val (.int i0), .val (.long j1), .second, .val (.int i3), .val (.int i4), .val (.ref b31), .val (.ref b60), .val (.int ti), .val (.int pi), .val (.ref b378), .val (.int 1), .val (.ref b31), .val (.ref b60), .unset, .unset] [(.ref b31), (.int 2), (.ref b378)])) _
          refine st393 _ ?_
          refine XS.istore X393.here hx rfl (hb hby at_294) rfl (l' := #[.val (.int i0), .val (.long j1), .second, .val (.int i3), .val (.int i4), .val (.ref b31), .val (.ref b60), .val (.int ti), .val (.int pi), .val (.ref b378), .val (.int 1), .val (.ref b31), .val (.ref b60), .val (.int 11), .unset]) rfl ?_
          show Steps p.tables e below (T393.setTop (mkF m 296 #[.val (.int i0), .val (.long j1), .second, .val (.int i3), .val (.int i4), .val (.ref b31), .val (.ref b60), .val (.int ti), .val (.int pi), .val (.ref b378), .val (.int 1), .val (.ref b31), .val (.ref b60), .val (.int 11), .unset] [])) _
          refine XS.aload X393.here hx rfl (hb hby at_296) rfl rfl ?_
          refine XS.iload X393.here hx rfl (hb hby at_298) rfl ?_
          refine XS.lloadN X393.here hx rfl (hb hby at_300) rfl ?_
          refine XS.iconst X393.here hx rfl (hb hby at_301) ?_
          show Steps p.tables e below (T393.setTop (mkF m 302 #[.val (.int i0), .val (.long j1), .second, .val (.int i3), .val (.int i4), .val (.ref b31), .val (.ref b60), .val (.int ti), .val (.int pi), .val (.ref b378), .val (.int 1), .val (.ref b31), .val (.ref b60), .val (.int 11), .unset] [(.int 2), (.long j1), (.int 11), (.ref b378)])) _
          refine st395 _ ?_
          show Steps p.tables e below (T395.setTop (mkF m 305 #[.val (.int i0), .val (.long j1), .second, .val (.int i3), .val (.int i4), .val (.ref b31), .val (.ref b60), .val (.int ti), .val (.int pi), .val (.ref b378), .val (.int 1), .val (.ref b31), .val (.ref b60), .val (.int 11), .unset] [(.int (gapv j1 (2 : Int32))), (.int 11), (.ref b378)])) _
          refine st397 _ ?_
          refine XS.aload X397.here hx rfl (hb hby at_306) rfl rfl ?_
          refine XS.iload X397.here hx rfl (hb hby at_308) rfl ?_
          show Steps p.tables e below (T397.setTop (mkF m 310 #[.val (.int i0), .val (.long j1), .second, .val (.int i3), .val (.int i4), .val (.ref b31), .val (.ref b60), .val (.int ti), .val (.int pi), .val (.ref b378), .val (.int 1), .val (.ref b31), .val (.ref b60), .val (.int 11), .unset] [(.int 11), (.ref b378)])) _
          refine XS.iconst X397.here hx rfl (hb hby at_310) ?_
          show Steps p.tables e below (T397.setTop (mkF m 311 #[.val (.int i0), .val (.long j1), .second, .val (.int i3), .val (.int i4), .val (.ref b31), .val (.ref b60), .val (.int ti), .val (.int pi), .val (.ref b378), .val (.int 1), .val (.ref b31), .val (.ref b60), .val (.int 11), .unset] [(.int 1), (.int 11), (.ref b378)])) _
          refine XS.iadd X397.here hx rfl (hb hby at_311) rfl ?_
          show Steps p.tables e below (T397.setTop (mkF m 312 #[.val (.int i0), .val (.long j1), .second, .val (.int i3), .val (.int i4), .val (.ref b31), .val (.ref b60), .val (.int ti), .val (.int pi), .val (.ref b378), .val (.int 1), .val (.ref b31), .val (.ref b60), .val (.int 11), .unset] [(.int ((11 : Int32) + (1 : Int32))), (.ref b378)])) _
          rw [show ((11 : Int32) + (1 : Int32)) = (12 : Int32) from by decide]
          refine XS.lloadN X397.here hx rfl (hb hby at_312) rfl ?_
          refine XS.iconst X397.here hx rfl (hb hby at_313) ?_
          show Steps p.tables e below (T397.setTop (mkF m 314 #[.val (.int i0), .val (.long j1), .second, .val (.int i3), .val (.int i4), .val (.ref b31), .val (.ref b60), .val (.int ti), .val (.int pi), .val (.ref b378), .val (.int 1), .val (.ref b31), .val (.ref b60), .val (.int 11), .unset] [(.int 3), (.long j1), (.int 12), (.ref b378)])) _
          refine st399 _ ?_
          show Steps p.tables e below (T399.setTop (mkF m 317 #[.val (.int i0), .val (.long j1), .second, .val (.int i3), .val (.int i4), .val (.ref b31), .val (.ref b60), .val (.int ti), .val (.int pi), .val (.ref b378), .val (.int 1), .val (.ref b31), .val (.ref b60), .val (.int 11), .unset] [(.int (gapv j1 (3 : Int32))), (.int 12), (.ref b378)])) _
          refine st401 _ ?_
          refine XS.aload X401.here hx rfl (hb hby at_318) rfl rfl ?_
          refine XS.iload X401.here hx rfl (hb hby at_320) rfl ?_
          show Steps p.tables e below (T401.setTop (mkF m 322 #[.val (.int i0), .val (.long j1), .second, .val (.int i3), .val (.int i4), .val (.ref b31), .val (.ref b60), .val (.int ti), .val (.int pi), .val (.ref b378), .val (.int 1), .val (.ref b31), .val (.ref b60), .val (.int 11), .unset] [(.int 11), (.ref b378)])) _
          refine XS.iconst X401.here hx rfl (hb hby at_322) ?_
          show Steps p.tables e below (T401.setTop (mkF m 323 #[.val (.int i0), .val (.long j1), .second, .val (.int i3), .val (.int i4), .val (.ref b31), .val (.ref b60), .val (.int ti), .val (.int pi), .val (.ref b378), .val (.int 1), .val (.ref b31), .val (.ref b60), .val (.int 11), .unset] [(.int 2), (.int 11), (.ref b378)])) _
          refine XS.iadd X401.here hx rfl (hb hby at_323) rfl ?_
          show Steps p.tables e below (T401.setTop (mkF m 324 #[.val (.int i0), .val (.long j1), .second, .val (.int i3), .val (.int i4), .val (.ref b31), .val (.ref b60), .val (.int ti), .val (.int pi), .val (.ref b378), .val (.int 1), .val (.ref b31), .val (.ref b60), .val (.int 11), .unset] [(.int ((11 : Int32) + (2 : Int32))), (.ref b378)])) _
          rw [show ((11 : Int32) + (2 : Int32)) = (13 : Int32) from by decide]
          refine XS.aload X401.here hx rfl (hb hby at_324) rfl rfl ?_
          show Steps p.tables e below (T401.setTop (mkF m 326 #[.val (.int i0), .val (.long j1), .second, .val (.int i3), .val (.int i4), .val (.ref b31), .val (.ref b60), .val (.int ti), .val (.int pi), .val (.ref b378), .val (.int 1), .val (.ref b31), .val (.ref b60), .val (.int 11), .unset] [(.ref b60), (.int 13), (.ref b378)])) _
          refine st405 _ ?_
          show Steps p.tables e below (T405.setTop (mkF m 329 #[.val (.int i0), .val (.long j1), .second, .val (.int i3), .val (.int i4), .val (.ref b31), .val (.ref b60), .val (.int ti), .val (.int pi), .val (.ref b378), .val (.int 1), .val (.ref b31), .val (.ref b60), .val (.int 11), .unset] [(.int 23)])) _
          refine XS.istore X405.here hx rfl (hb hby at_329) rfl (l' := #[.val (.int i0), .val (.long j1), .second, .val (.int i3), .val (.int i4), .val (.ref b31), .val (.ref b60), .val (.int ti), .val (.int pi), .val (.ref b378), .val (.int 1), .val (.ref b31), .val (.ref b60), .val (.int 23), .unset]) rfl ?_
          refine XS.aload X405.here hx rfl (hb hby at_331) rfl rfl ?_
          refine XS.iload X405.here hx rfl (hb hby at_333) rfl ?_
          refine XS.lloadN X405.here hx rfl (hb hby at_335) rfl ?_
          show Steps p.tables e below (T405.setTop (mkF m 336 #[.val (.int i0), .val (.long j1), .second, .val (.int i3), .val (.int i4), .val (.ref b31), .val (.ref b60), .val (.int ti), .val (.int pi), .val (.ref b378), .val (.int 1), .val (.ref b31), .val (.ref b60), .val (.int 23), .unset] [(.long j1), (.int 23), (.ref b378)])) _
          refine XS.iconst X405.here hx rfl (hb hby at_336) ?_
          show Steps p.tables e below (T405.setTop (mkF m 337 #[.val (.int i0), .val (.long j1), .second, .val (.int i3), .val (.int i4), .val (.ref b31), .val (.ref b60), .val (.int ti), .val (.int pi), .val (.ref b378), .val (.int 1), .val (.ref b31), .val (.ref b60), .val (.int 23), .unset] [(.int 4), (.long j1), (.int 23), (.ref b378)])) _
          refine st407 _ ?_
          show Steps p.tables e below (T407.setTop (mkF m 340 #[.val (.int i0), .val (.long j1), .second, .val (.int i3), .val (.int i4), .val (.ref b31), .val (.ref b60), .val (.int ti), .val (.int pi), .val (.ref b378), .val (.int 1), .val (.ref b31), .val (.ref b60), .val (.int 23), .unset] [(.int (gapv j1 (4 : Int32))), (.int 23), (.ref b378)])) _
          refine st409 _ ?_
          refine XS.aload X409.here hx rfl (hb hby at_341) rfl rfl ?_
          show Steps p.tables e below (T409.setTop (mkF m 343 #[.val (.int i0), .val (.long j1), .second, .val (.int i3), .val (.int i4), .val (.ref b31), .val (.ref b60), .val (.int ti), .val (.int pi), .val (.ref b378), .val (.int 1), .val (.ref b31), .val (.ref b60), .val (.int 23), .unset] [(.ref b378)])) _
          refine XS.iload X409.here hx rfl (hb hby at_343) rfl ?_
          refine XS.iconst X409.here hx rfl (hb hby at_345) ?_
          show Steps p.tables e below (T409.setTop (mkF m 346 #[.val (.int i0), .val (.long j1), .second, .val (.int i3), .val (.int i4), .val (.ref b31), .val (.ref b60), .val (.int ti), .val (.int pi), .val (.ref b378), .val (.int 1), .val (.ref b31), .val (.ref b60), .val (.int 23), .unset] [(.int 1), (.int 23), (.ref b378)])) _
          refine XS.iadd X409.here hx rfl (hb hby at_346) rfl ?_
          show Steps p.tables e below (T409.setTop (mkF m 347 #[.val (.int i0), .val (.long j1), .second, .val (.int i3), .val (.int i4), .val (.ref b31), .val (.ref b60), .val (.int ti), .val (.int pi), .val (.ref b378), .val (.int 1), .val (.ref b31), .val (.ref b60), .val (.int 23), .unset] [(.int ((23 : Int32) + (1 : Int32))), (.ref b378)])) _
          rw [show ((23 : Int32) + (1 : Int32)) = (24 : Int32) from by decide]
          refine XS.lloadN X409.here hx rfl (hb hby at_347) rfl ?_
          show Steps p.tables e below (T409.setTop (mkF m 348 #[.val (.int i0), .val (.long j1), .second, .val (.int i3), .val (.int i4), .val (.ref b31), .val (.ref b60), .val (.int ti), .val (.int pi), .val (.ref b378), .val (.int 1), .val (.ref b31), .val (.ref b60), .val (.int 23), .unset] [(.long j1), (.int 24), (.ref b378)])) _
          refine XS.iconst X409.here hx rfl (hb hby at_348) ?_
          show Steps p.tables e below (T409.setTop (mkF m 349 #[.val (.int i0), .val (.long j1), .second, .val (.int i3), .val (.int i4), .val (.ref b31), .val (.ref b60), .val (.int ti), .val (.int pi), .val (.ref b378), .val (.int 1), .val (.ref b31), .val (.ref b60), .val (.int 23), .unset] [(.int 5), (.long j1), (.int 24), (.ref b378)])) _
          refine st411 _ ?_
          show Steps p.tables e below (T411.setTop (mkF m 352 #[.val (.int i0), .val (.long j1), .second, .val (.int i3), .val (.int i4), .val (.ref b31), .val (.ref b60), .val (.int ti), .val (.int pi), .val (.ref b378), .val (.int 1), .val (.ref b31), .val (.ref b60), .val (.int 23), .unset] [(.int (gapv j1 (5 : Int32))), (.int 24), (.ref b378)])) _
          refine st413 _ ?_
          refine XS.aconstNull X413.here hx rfl (hb hby at_353) ?_
          show Steps p.tables e below (T413.setTop (mkF m 354 #[.val (.int i0), .val (.long j1), .second, .val (.int i3), .val (.int i4), .val (.ref b31), .val (.ref b60), .val (.int ti), .val (.int pi), .val (.ref b378), .val (.int 1), .val (.ref b31), .val (.ref b60), .val (.int 23), .unset] [.null])) _
          refine XS.astore X413.here hx rfl (hb hby at_354) rfl rfl (l' := #[.val (.int i0), .val (.long j1), .second, .val (.int i3), .val (.int i4), .val (.ref b31), .val (.ref b60), .val (.int ti), .val (.int pi), .val (.ref b378), .val (.int 1), .val (.ref b31), .val (.ref b60), .val (.int 23), .val .null]) rfl ?_
          exact kk)
        have f416 := ((((((((((((((((((((((((((((((((p5_E.ext E31).wr W34).wr W37).wr W40).wr W43).wr W46).wr W49).wr W52).wr W55).wr W58).ext E60).wr W63).wr W66).wr W69).wr W72).wr W75).wr W78).wr W81).wr W84).wr W87).wr W90).keep Kj93).keep Kj229).ext E378).wr W384).wr W388).keep Kq393).wr W397).wr W401).keep Kq405).wr W409).wr W413)
        have ne417 : wt ≠ b31 := (Nat.ne_of_lt (Nat.lt_of_lt_of_le p5_E.lt (Nat.le_of_eq q31.symm)))
        have ne418 : wt ≠ b60 := (Nat.ne_of_lt (Nat.lt_of_lt_of_le (Nat.lt_of_lt_of_le p5_E.lt (Nat.le_trans (Nat.le_trans (Nat.le_trans (Nat.le_trans (Nat.le_trans (Nat.le_trans (Nat.le_trans (Nat.le_trans (Nat.le_trans E31.1 (Nat.le_of_eq W34.size.symm)) (Nat.le_of_eq W37.size.symm)) (Nat.le_of_eq W40.size.symm)) (Nat.le_of_eq W43.size.symm)) (Nat.le_of_eq W46.size.symm)) (Nat.le_of_eq W49.size.symm)) (Nat.le_of_eq W52.size.symm)) (Nat.le_of_eq W55.size.symm)) (Nat.le_of_eq W58.size.symm))) (Nat.le_of_eq q60.symm)))
        have ne419 : wt ≠ b378 := (Nat.ne_of_lt (Nat.lt_of_lt_of_le (Nat.lt_of_lt_of_le p5_E.lt (Nat.le_trans (Nat.le_trans (Nat.le_trans (Nat.le_trans (Nat.le_trans (Nat.le_trans (Nat.le_trans (Nat.le_trans (Nat.le_trans (Nat.le_trans (Nat.le_trans (Nat.le_trans (Nat.le_trans (Nat.le_trans (Nat.le_trans (Nat.le_trans (Nat.le_trans (Nat.le_trans (Nat.le_trans (Nat.le_trans (Nat.le_trans (Nat.le_trans E31.1 (Nat.le_of_eq W34.size.symm)) (Nat.le_of_eq W37.size.symm)) (Nat.le_of_eq W40.size.symm)) (Nat.le_of_eq W43.size.symm)) (Nat.le_of_eq W46.size.symm)) (Nat.le_of_eq W49.size.symm)) (Nat.le_of_eq W52.size.symm)) (Nat.le_of_eq W55.size.symm)) (Nat.le_of_eq W58.size.symm)) E60.1) (Nat.le_of_eq W63.size.symm)) (Nat.le_of_eq W66.size.symm)) (Nat.le_of_eq W69.size.symm)) (Nat.le_of_eq W72.size.symm)) (Nat.le_of_eq W75.size.symm)) (Nat.le_of_eq W78.size.symm)) (Nat.le_of_eq W81.size.symm)) (Nat.le_of_eq W84.size.symm)) (Nat.le_of_eq W87.size.symm)) (Nat.le_of_eq W90.size.symm)) Kj93.1) Kj229.1)) (Nat.le_of_eq q378.symm)))
        have f420 := ((((((((((((((((((((((((((((((((p6_F.ext E31).other W34 (Or.inl ne417)).other W37 (Or.inl ne417)).other W40 (Or.inl ne417)).other W43 (Or.inl ne417)).other W46 (Or.inl ne417)).other W49 (Or.inl ne417)).other W52 (Or.inl ne417)).other W55 (Or.inl ne417)).other W58 (Or.inl ne417)).ext E60).other W63 (Or.inl ne418)).other W66 (Or.inl ne418)).other W69 (Or.inl ne418)).other W72 (Or.inl ne418)).other W75 (Or.inl ne418)).other W78 (Or.inl ne418)).other W81 (Or.inl ne418)).other W84 (Or.inl ne418)).other W87 (Or.inl ne418)).other W90 (Or.inl ne418)).keep Kj93 (ninS ne417 nin0)).keep Kj229 (ninS ne418 nin0)).ext E378).other W384 (Or.inl ne419)).other W388 (Or.inl ne419)).keep Kq393 (ninS ne419 nin0)).other W397 (Or.inl ne419)).other W401 (Or.inl ne419)).keep Kq405 (ninS ne419 nin0)).other W409 (Or.inl ne419)).other W413 (Or.inl ne419))
        have f421 := ((((((((((((((((((((((((((((((((p7_E.ext E31).wr W34).wr W37).wr W40).wr W43).wr W46).wr W49).wr W52).wr W55).wr W58).ext E60).wr W63).wr W66).wr W69).wr W72).wr W75).wr W78).wr W81).wr W84).wr W87).wr W90).keep Kj93).keep Kj229).ext E378).wr W384).wr W388).keep Kq393).wr W397).wr W401).keep Kq405).wr W409).wr W413)
        have ne422 : tt ≠ b31 := (Nat.ne_of_lt (Nat.lt_of_lt_of_le p7_E.lt (Nat.le_of_eq q31.symm)))
        have ne423 : tt ≠ b60 := (Nat.ne_of_lt (Nat.lt_of_lt_of_le (Nat.lt_of_lt_of_le p7_E.lt (Nat.le_trans (Nat.le_trans (Nat.le_trans (Nat.le_trans (Nat.le_trans (Nat.le_trans (Nat.le_trans (Nat.le_trans (Nat.le_trans E31.1 (Nat.le_of_eq W34.size.symm)) (Nat.le_of_eq W37.size.symm)) (Nat.le_of_eq W40.size.symm)) (Nat.le_of_eq W43.size.symm)) (Nat.le_of_eq W46.size.symm)) (Nat.le_of_eq W49.size.symm)) (Nat.le_of_eq W52.size.symm)) (Nat.le_of_eq W55.size.symm)) (Nat.le_of_eq W58.size.symm))) (Nat.le_of_eq q60.symm)))
        have ne424 : tt ≠ b378 := (Nat.ne_of_lt (Nat.lt_of_lt_of_le (Nat.lt_of_lt_of_le p7_E.lt (Nat.le_trans (Nat.le_trans (Nat.le_trans (Nat.le_trans (Nat.le_trans (Nat.le_trans (Nat.le_trans (Nat.le_trans (Nat.le_trans (Nat.le_trans (Nat.le_trans (Nat.le_trans (Nat.le_trans (Nat.le_trans (Nat.le_trans (Nat.le_trans (Nat.le_trans (Nat.le_trans (Nat.le_trans (Nat.le_trans (Nat.le_trans (Nat.le_trans E31.1 (Nat.le_of_eq W34.size.symm)) (Nat.le_of_eq W37.size.symm)) (Nat.le_of_eq W40.size.symm)) (Nat.le_of_eq W43.size.symm)) (Nat.le_of_eq W46.size.symm)) (Nat.le_of_eq W49.size.symm)) (Nat.le_of_eq W52.size.symm)) (Nat.le_of_eq W55.size.symm)) (Nat.le_of_eq W58.size.symm)) E60.1) (Nat.le_of_eq W63.size.symm)) (Nat.le_of_eq W66.size.symm)) (Nat.le_of_eq W69.size.symm)) (Nat.le_of_eq W72.size.symm)) (Nat.le_of_eq W75.size.symm)) (Nat.le_of_eq W78.size.symm)) (Nat.le_of_eq W81.size.symm)) (Nat.le_of_eq W84.size.symm)) (Nat.le_of_eq W87.size.symm)) (Nat.le_of_eq W90.size.symm)) Kj93.1) Kj229.1)) (Nat.le_of_eq q378.symm)))
        have f425 := ((((((((((((((((((((((((((((((((p8_F.ext E31).other W34 (Or.inl ne422)).other W37 (Or.inl ne422)).other W40 (Or.inl ne422)).other W43 (Or.inl ne422)).other W46 (Or.inl ne422)).other W49 (Or.inl ne422)).other W52 (Or.inl ne422)).other W55 (Or.inl ne422)).other W58 (Or.inl ne422)).ext E60).other W63 (Or.inl ne423)).other W66 (Or.inl ne423)).other W69 (Or.inl ne423)).other W72 (Or.inl ne423)).other W75 (Or.inl ne423)).other W78 (Or.inl ne423)).other W81 (Or.inl ne423)).other W84 (Or.inl ne423)).other W87 (Or.inl ne423)).other W90 (Or.inl ne423)).keep Kj93 (ninS ne422 nin0)).keep Kj229 (ninS ne423 nin0)).ext E378).other W384 (Or.inl ne424)).other W388 (Or.inl ne424)).keep Kq393 (ninS ne424 nin0)).other W397 (Or.inl ne424)).other W401 (Or.inl ne424)).keep Kq405 (ninS ne424 nin0)).other W409 (Or.inl ne424)).other W413 (Or.inl ne424))
        have f426 := ((((((((((((((((((((((((((((((((p9_F.ext E31).other W34 (Or.inl ne422)).other W37 (Or.inl ne422)).other W40 (Or.inl ne422)).other W43 (Or.inl ne422)).other W46 (Or.inl ne422)).other W49 (Or.inl ne422)).other W52 (Or.inl ne422)).other W55 (Or.inl ne422)).other W58 (Or.inl ne422)).ext E60).other W63 (Or.inl ne423)).other W66 (Or.inl ne423)).other W69 (Or.inl ne423)).other W72 (Or.inl ne423)).other W75 (Or.inl ne423)).other W78 (Or.inl ne423)).other W81 (Or.inl ne423)).other W84 (Or.inl ne423)).other W87 (Or.inl ne423)).other W90 (Or.inl ne423)).keep Kj93 (ninS ne422 nin0)).keep Kj229 (ninS ne423 nin0)).ext E378).other W384 (Or.inl ne424)).other W388 (Or.inl ne424)).keep Kq393 (ninS ne424 nin0)).other W397 (Or.inl ne424)).other W401 (Or.inl ne424)).keep Kq405 (ninS ne424 nin0)).other W409 (Or.inl ne424)).other W413 (Or.inl ne424))
        have ne427 : vbt ≠ b31 := (Nat.ne_of_lt (Nat.lt_of_lt_of_le p10_A.lt (Nat.le_of_eq q31.symm)))
        have ne428 : vbt ≠ b60 := (Nat.ne_of_lt (Nat.lt_of_lt_of_le (Nat.lt_of_lt_of_le p10_A.lt (Nat.le_trans (Nat.le_trans (Nat.le_trans (Nat.le_trans (Nat.le_trans (Nat.le_trans (Nat.le_trans (Nat.le_trans (Nat.le_trans E31.1 (Nat.le_of_eq W34.size.symm)) (Nat.le_of_eq W37.size.symm)) (Nat.le_of_eq W40.size.symm)) (Nat.le_of_eq W43.size.symm)) (Nat.le_of_eq W46.size.symm)) (Nat.le_of_eq W49.size.symm)) (Nat.le_of_eq W52.size.symm)) (Nat.le_of_eq W55.size.symm)) (Nat.le_of_eq W58.size.symm))) (Nat.le_of_eq q60.symm)))
        have ne429 : vbt ≠ b378 := (Nat.ne_of_lt (Nat.lt_of_lt_of_le (Nat.lt_of_lt_of_le p10_A.lt (Nat.le_trans (Nat.le_trans (Nat.le_trans (Nat.le_trans (Nat.le_trans (Nat.le_trans (Nat.le_trans (Nat.le_trans (Nat.le_trans (Nat.le_trans (Nat.le_trans (Nat.le_trans (Nat.le_trans (Nat.le_trans (Nat.le_trans (Nat.le_trans (Nat.le_trans (Nat.le_trans (Nat.le_trans (Nat.le_trans (Nat.le_trans (Nat.le_trans E31.1 (Nat.le_of_eq W34.size.symm)) (Nat.le_of_eq W37.size.symm)) (Nat.le_of_eq W40.size.symm)) (Nat.le_of_eq W43.size.symm)) (Nat.le_of_eq W46.size.symm)) (Nat.le_of_eq W49.size.symm)) (Nat.le_of_eq W52.size.symm)) (Nat.le_of_eq W55.size.symm)) (Nat.le_of_eq W58.size.symm)) E60.1) (Nat.le_of_eq W63.size.symm)) (Nat.le_of_eq W66.size.symm)) (Nat.le_of_eq W69.size.symm)) (Nat.le_of_eq W72.size.symm)) (Nat.le_of_eq W75.size.symm)) (Nat.le_of_eq W78.size.symm)) (Nat.le_of_eq W81.size.symm)) (Nat.le_of_eq W84.size.symm)) (Nat.le_of_eq W87.size.symm)) (Nat.le_of_eq W90.size.symm)) Kj93.1) Kj229.1)) (Nat.le_of_eq q378.symm)))
        have f430 := ((((((((((((((((((((((((((((((((p10_A.ext E31).other W34 ne427).other W37 ne427).other W40 ne427).other W43 ne427).other W46 ne427).other W49 ne427).other W52 ne427).other W55 ne427).other W58 ne427).ext E60).other W63 ne428).other W66 ne428).other W69 ne428).other W72 ne428).other W75 ne428).other W78 ne428).other W81 ne428).other W84 ne428).other W87 ne428).other W90 ne428).keep Kj93 (ninS ne427 nin0)).keep Kj229 (ninS ne428 nin0)).ext E378).other W384 ne429).other W388 ne429).keep Kq393 (ninS ne429 nin0)).other W397 ne429).other W401 ne429).keep Kq405 (ninS ne429 nin0)).other W409 ne429).other W413 ne429)
        have f431 := ((((((((((((((((((((((((((((((((p11_E.ext E31).wr W34).wr W37).wr W40).wr W43).wr W46).wr W49).wr W52).wr W55).wr W58).ext E60).wr W63).wr W66).wr W69).wr W72).wr W75).wr W78).wr W81).wr W84).wr W87).wr W90).keep Kj93).keep Kj229).ext E378).wr W384).wr W388).keep Kq393).wr W397).wr W401).keep Kq405).wr W409).wr W413)
        have ne432 : wp ≠ b31 := (Nat.ne_of_lt (Nat.lt_of_lt_of_le p11_E.lt (Nat.le_of_eq q31.symm)))
        have ne433 : wp ≠ b60 := (Nat.ne_of_lt (Nat.lt_of_lt_of_le (Nat.lt_of_lt_of_le p11_E.lt (Nat.le_trans (Nat.le_trans (Nat.le_trans (Nat.le_trans (Nat.le_trans (Nat.le_trans (Nat.le_trans (Nat.le_trans (Nat.le_trans E31.1 (Nat.le_of_eq W34.size.symm)) (Nat.le_of_eq W37.size.symm)) (Nat.le_of_eq W40.size.symm)) (Nat.le_of_eq W43.size.symm)) (Nat.le_of_eq W46.size.symm)) (Nat.le_of_eq W49.size.symm)) (Nat.le_of_eq W52.size.symm)) (Nat.le_of_eq W55.size.symm)) (Nat.le_of_eq W58.size.symm))) (Nat.le_of_eq q60.symm)))
        have ne434 : wp ≠ b378 := (Nat.ne_of_lt (Nat.lt_of_lt_of_le (Nat.lt_of_lt_of_le p11_E.lt (Nat.le_trans (Nat.le_trans (Nat.le_trans (Nat.le_trans (Nat.le_trans (Nat.le_trans (Nat.le_trans (Nat.le_trans (Nat.le_trans (Nat.le_trans (Nat.le_trans (Nat.le_trans (Nat.le_trans (Nat.le_trans (Nat.le_trans (Nat.le_trans (Nat.le_trans (Nat.le_trans (Nat.le_trans (Nat.le_trans (Nat.le_trans (Nat.le_trans E31.1 (Nat.le_of_eq W34.size.symm)) (Nat.le_of_eq W37.size.symm)) (Nat.le_of_eq W40.size.symm)) (Nat.le_of_eq W43.size.symm)) (Nat.le_of_eq W46.size.symm)) (Nat.le_of_eq W49.size.symm)) (Nat.le_of_eq W52.size.symm)) (Nat.le_of_eq W55.size.symm)) (Nat.le_of_eq W58.size.symm)) E60.1) (Nat.le_of_eq W63.size.symm)) (Nat.le_of_eq W66.size.symm)) (Nat.le_of_eq W69.size.symm)) (Nat.le_of_eq W72.size.symm)) (Nat.le_of_eq W75.size.symm)) (Nat.le_of_eq W78.size.symm)) (Nat.le_of_eq W81.size.symm)) (Nat.le_of_eq W84.size.symm)) (Nat.le_of_eq W87.size.symm)) (Nat.le_of_eq W90.size.symm)) Kj93.1) Kj229.1)) (Nat.le_of_eq q378.symm)))
        have f435 := ((((((((((((((((((((((((((((((((p12_F.ext E31).other W34 (Or.inl ne432)).other W37 (Or.inl ne432)).other W40 (Or.inl ne432)).other W43 (Or.inl ne432)).other W46 (Or.inl ne432)).other W49 (Or.inl ne432)).other W52 (Or.inl ne432)).other W55 (Or.inl ne432)).other W58 (Or.inl ne432)).ext E60).other W63 (Or.inl ne433)).other W66 (Or.inl ne433)).other W69 (Or.inl ne433)).other W72 (Or.inl ne433)).other W75 (Or.inl ne433)).other W78 (Or.inl ne433)).other W81 (Or.inl ne433)).other W84 (Or.inl ne433)).other W87 (Or.inl ne433)).other W90 (Or.inl ne433)).keep Kj93 (ninS ne432 nin0)).keep Kj229 (ninS ne433 nin0)).ext E378).other W384 (Or.inl ne434)).other W388 (Or.inl ne434)).keep Kq393 (ninS ne434 nin0)).other W397 (Or.inl ne434)).other W401 (Or.inl ne434)).keep Kq405 (ninS ne434 nin0)).other W409 (Or.inl ne434)).other W413 (Or.inl ne434))
        have f436 := ((((((((((((((((((((((((((((((((p13_E.ext E31).wr W34).wr W37).wr W40).wr W43).wr W46).wr W49).wr W52).wr W55).wr W58).ext E60).wr W63).wr W66).wr W69).wr W72).wr W75).wr W78).wr W81).wr W84).wr W87).wr W90).keep Kj93).keep Kj229).ext E378).wr W384).wr W388).keep Kq393).wr W397).wr W401).keep Kq405).wr W409).wr W413)
        have ne437 : tp ≠ b31 := (Nat.ne_of_lt (Nat.lt_of_lt_of_le p13_E.lt (Nat.le_of_eq q31.symm)))
        have ne438 : tp ≠ b60 := (Nat.ne_of_lt (Nat.lt_of_lt_of_le (Nat.lt_of_lt_of_le p13_E.lt (Nat.le_trans (Nat.le_trans (Nat.le_trans (Nat.le_trans (Nat.le_trans (Nat.le_trans (Nat.le_trans (Nat.le_trans (Nat.le_trans E31.1 (Nat.le_of_eq W34.size.symm)) (Nat.le_of_eq W37.size.symm)) (Nat.le_of_eq W40.size.symm)) (Nat.le_of_eq W43.size.symm)) (Nat.le_of_eq W46.size.symm)) (Nat.le_of_eq W49.size.symm)) (Nat.le_of_eq W52.size.symm)) (Nat.le_of_eq W55.size.symm)) (Nat.le_of_eq W58.size.symm))) (Nat.le_of_eq q60.symm)))
        have ne439 : tp ≠ b378 := (Nat.ne_of_lt (Nat.lt_of_lt_of_le (Nat.lt_of_lt_of_le p13_E.lt (Nat.le_trans (Nat.le_trans (Nat.le_trans (Nat.le_trans (Nat.le_trans (Nat.le_trans (Nat.le_trans (Nat.le_trans (Nat.le_trans (Nat.le_trans (Nat.le_trans (Nat.le_trans (Nat.le_trans (Nat.le_trans (Nat.le_trans (Nat.le_trans (Nat.le_trans (Nat.le_trans (Nat.le_trans (Nat.le_trans (Nat.le_trans (Nat.le_trans E31.1 (Nat.le_of_eq W34.size.symm)) (Nat.le_of_eq W37.size.symm)) (Nat.le_of_eq W40.size.symm)) (Nat.le_of_eq W43.size.symm)) (Nat.le_of_eq W46.size.symm)) (Nat.le_of_eq W49.size.symm)) (Nat.le_of_eq W52.size.symm)) (Nat.le_of_eq W55.size.symm)) (Nat.le_of_eq W58.size.symm)) E60.1) (Nat.le_of_eq W63.size.symm)) (Nat.le_of_eq W66.size.symm)) (Nat.le_of_eq W69.size.symm)) (Nat.le_of_eq W72.size.symm)) (Nat.le_of_eq W75.size.symm)) (Nat.le_of_eq W78.size.symm)) (Nat.le_of_eq W81.size.symm)) (Nat.le_of_eq W84.size.symm)) (Nat.le_of_eq W87.size.symm)) (Nat.le_of_eq W90.size.symm)) Kj93.1) Kj229.1)) (Nat.le_of_eq q378.symm)))
        have f440 := ((((((((((((((((((((((((((((((((p14_F.ext E31).other W34 (Or.inl ne437)).other W37 (Or.inl ne437)).other W40 (Or.inl ne437)).other W43 (Or.inl ne437)).other W46 (Or.inl ne437)).other W49 (Or.inl ne437)).other W52 (Or.inl ne437)).other W55 (Or.inl ne437)).other W58 (Or.inl ne437)).ext E60).other W63 (Or.inl ne438)).other W66 (Or.inl ne438)).other W69 (Or.inl ne438)).other W72 (Or.inl ne438)).other W75 (Or.inl ne438)).other W78 (Or.inl ne438)).other W81 (Or.inl ne438)).other W84 (Or.inl ne438)).other W87 (Or.inl ne438)).other W90 (Or.inl ne438)).keep Kj93 (ninS ne437 nin0)).keep Kj229 (ninS ne438 nin0)).ext E378).other W384 (Or.inl ne439)).other W388 (Or.inl ne439)).keep Kq393 (ninS ne439 nin0)).other W397 (Or.inl ne439)).other W401 (Or.inl ne439)).keep Kq405 (ninS ne439 nin0)).other W409 (Or.inl ne439)).other W413 (Or.inl ne439))
        have f441 := ((((((((((((((((((((((((((((((((p15_F.ext E31).other W34 (Or.inl ne437)).other W37 (Or.inl ne437)).other W40 (Or.inl ne437)).other W43 (Or.inl ne437)).other W46 (Or.inl ne437)).other W49 (Or.inl ne437)).other W52 (Or.inl ne437)).other W55 (Or.inl ne437)).other W58 (Or.inl ne437)).ext E60).other W63 (Or.inl ne438)).other W66 (Or.inl ne438)).other W69 (Or.inl ne438)).other W72 (Or.inl ne438)).other W75 (Or.inl ne438)).other W78 (Or.inl ne438)).other W81 (Or.inl ne438)).other W84 (Or.inl ne438)).other W87 (Or.inl ne438)).other W90 (Or.inl ne438)).keep Kj93 (ninS ne437 nin0)).keep Kj229 (ninS ne438 nin0)).ext E378).other W384 (Or.inl ne439)).other W388 (Or.inl ne439)).keep Kq393 (ninS ne439 nin0)).other W397 (Or.inl ne439)).other W401 (Or.inl ne439)).keep Kq405 (ninS ne439 nin0)).other W409 (Or.inl ne439)).other W413 (Or.inl ne439))
        have ne442 : vbp ≠ b31 := (Nat.ne_of_lt (Nat.lt_of_lt_of_le p16_A.lt (Nat.le_of_eq q31.symm)))
        have ne443 : vbp ≠ b60 := (Nat.ne_of_lt (Nat.lt_of_lt_of_le (Nat.lt_of_lt_of_le p16_A.lt (Nat.le_trans (Nat.le_trans (Nat.le_trans (Nat.le_trans (Nat.le_trans (Nat.le_trans (Nat.le_trans (Nat.le_trans (Nat.le_trans E31.1 (Nat.le_of_eq W34.size.symm)) (Nat.le_of_eq W37.size.symm)) (Nat.le_of_eq W40.size.symm)) (Nat.le_of_eq W43.size.symm)) (Nat.le_of_eq W46.size.symm)) (Nat.le_of_eq W49.size.symm)) (Nat.le_of_eq W52.size.symm)) (Nat.le_of_eq W55.size.symm)) (Nat.le_of_eq W58.size.symm))) (Nat.le_of_eq q60.symm)))
        have ne444 : vbp ≠ b378 := (Nat.ne_of_lt (Nat.lt_of_lt_of_le (Nat.lt_of_lt_of_le p16_A.lt (Nat.le_trans (Nat.le_trans (Nat.le_trans (Nat.le_trans (Nat.le_trans (Nat.le_trans (Nat.le_trans (Nat.le_trans (Nat.le_trans (Nat.le_trans (Nat.le_trans (Nat.le_trans (Nat.le_trans (Nat.le_trans (Nat.le_trans (Nat.le_trans (Nat.le_trans (Nat.le_trans (Nat.le_trans (Nat.le_trans (Nat.le_trans (Nat.le_trans E31.1 (Nat.le_of_eq W34.size.symm)) (Nat.le_of_eq W37.size.symm)) (Nat.le_of_eq W40.size.symm)) (Nat.le_of_eq W43.size.symm)) (Nat.le_of_eq W46.size.symm)) (Nat.le_of_eq W49.size.symm)) (Nat.le_of_eq W52.size.symm)) (Nat.le_of_eq W55.size.symm)) (Nat.le_of_eq W58.size.symm)) E60.1) (Nat.le_of_eq W63.size.symm)) (Nat.le_of_eq W66.size.symm)) (Nat.le_of_eq W69.size.symm)) (Nat.le_of_eq W72.size.symm)) (Nat.le_of_eq W75.size.symm)) (Nat.le_of_eq W78.size.symm)) (Nat.le_of_eq W81.size.symm)) (Nat.le_of_eq W84.size.symm)) (Nat.le_of_eq W87.size.symm)) (Nat.le_of_eq W90.size.symm)) Kj93.1) Kj229.1)) (Nat.le_of_eq q378.symm)))
        have f445 := ((((((((((((((((((((((((((((((((p16_A.ext E31).other W34 ne442).other W37 ne442).other W40 ne442).other W43 ne442).other W46 ne442).other W49 ne442).other W52 ne442).other W55 ne442).other W58 ne442).ext E60).other W63 ne443).other W66 ne443).other W69 ne443).other W72 ne443).other W75 ne443).other W78 ne443).other W81 ne443).other W84 ne443).other W87 ne443).other W90 ne443).keep Kj93 (ninS ne442 nin0)).keep Kj229 (ninS ne443 nin0)).ext E378).other W384 ne444).other W388 ne444).keep Kq393 (ninS ne444 nin0)).other W397 ne444).other W401 ne444).keep Kq405 (ninS ne444 nin0)).other W409 ne444).other W413 ne444)
        have f446 := ((((((f392.keep Kq393 (ninS ne391 nin0)).other W397 ne391).other W401 ne391).keep Kq405 (ninS ne391 nin0)).other W409 ne391).other W413 ne391)
        have f447 := (((f404.keep Kq405 (ninS ne403 nin0)).other W409 ne403).other W413 ne403)
        refine cps (A := ∃ (ev : Value) (T : State) (Lq : List Loc), Stand p l e room_1 s m #[(.int i0), (.long j1), (.int i3), (.int i4)] below meth c T Lq 3 44 ∧ Fr n0 Lq ∧ T.heap = h413 ∧ (∀ tz_, Steps p.tables e below (T.setTop (mkF m 389 #[.val (.int i0), .val (.long j1), .second, .val (.int i3), .val (.int i4), .val (.ref b31), .val (.ref b60), .val (.int ti), .val (.int pi), .val (.ref b378), .val (.int 1), .val (.ref b31), .val (.ref b60), .val (.int 23), .val ev] [])) tz_ → Steps p.tables e below (s₁.setTop (entryFrame m #[(.int i0), (.long j1), (.int i3), (.int i4)] maxLocals)) tz_) ∧ (Expd ti pi wt wp ev) ∧ (ev.isRef = true)) (fun tail448 => ?_) ?_
        · skip
          have pre449 : ∀ tz_, Steps p.tables e below (T413.setTop (mkF m 358 #[.val (.int i0), .val (.long j1), .second, .val (.int i3), .val (.int i4), .val (.ref b31), .val (.ref b60), .val (.int ti), .val (.int pi), .val (.ref b378), .val (.int 1), .val (.ref b31), .val (.ref b60), .val (.int 23), .val .null] [(.int ti)])) tz_ → Steps p.tables e below (s₁.setTop (entryFrame m #[(.int i0), (.long j1), (.int i3), (.int i4)] maxLocals)) tz_ := fun tz_ kk => pre415 tz_ (by
            show Steps p.tables e below (T413.setTop (mkF m 356 #[.val (.int i0), .val (.long j1), .second, .val (.int i3), .val (.int i4), .val (.ref b31), .val (.ref b60), .val (.int ti), .val (.int pi), .val (.ref b378), .val (.int 1), .val (.ref b31), .val (.ref b60), .val (.int 23), .val .null] [])) _
            refine XS.iload X413.here hx rfl (hb hby at_356) rfl ?_
            exact kk)
          by_cases hc450 : ti = (0 : Int32)
          · skip
            have pre451 : ∀ tz_, Steps p.tables e below (T413.setTop (mkF m 376 #[.val (.int i0), .val (.long j1), .second, .val (.int i3), .val (.int i4), .val (.ref b31), .val (.ref b60), .val (.int ti), .val (.int pi), .val (.ref b378), .val (.int 1), .val (.ref b31), .val (.ref b60), .val (.int 23), .val .null] [(.int pi)])) tz_ → Steps p.tables e below (s₁.setTop (entryFrame m #[(.int i0), (.long j1), (.int i3), (.int i4)] maxLocals)) tz_ := fun tz_ kk => pre449 tz_ (by
              show Steps p.tables e below (T413.setTop (mkF m 358 #[.val (.int i0), .val (.long j1), .second, .val (.int i3), .val (.int i4), .val (.ref b31), .val (.ref b60), .val (.int ti), .val (.int pi), .val (.ref b378), .val (.int 1), .val (.ref b31), .val (.ref b60), .val (.int 23), .val .null] [(.int ti)])) _
              refine XS.ifYes X413.here hx rfl (pc0 := 358) (pc' := 374) rfl (hb hby at_358) rfl ((if0 _ _).trans (teq hc450).1) (by decide) (by decide) ?_
              refine XS.iload X413.here hx rfl (hb hby at_374) rfl ?_
              exact kk)
            by_cases hc452 : pi = (0 : Int32)
            · skip
              have pre453 : ∀ tz_, Steps p.tables e below (T413.setTop (mkF m 389 #[.val (.int i0), .val (.long j1), .second, .val (.int i3), .val (.int i4), .val (.ref b31), .val (.ref b60), .val (.int ti), .val (.int pi), .val (.ref b378), .val (.int 1), .val (.ref b31), .val (.ref b60), .val (.int 23), .val .null] [])) tz_ → Steps p.tables e below (s₁.setTop (entryFrame m #[(.int i0), (.long j1), (.int i3), (.int i4)] maxLocals)) tz_ := fun tz_ kk => pre451 tz_ (by
                show Steps p.tables e below (T413.setTop (mkF m 376 #[.val (.int i0), .val (.long j1), .second, .val (.int i3), .val (.int i4), .val (.ref b31), .val (.ref b60), .val (.int ti), .val (.int pi), .val (.ref b378), .val (.int 1), .val (.ref b31), .val (.ref b60), .val (.int 23), .val .null] [(.int pi)])) _
                refine XS.ifYes X413.here hx rfl (pc0 := 376) (pc' := 389) rfl (hb hby at_376) rfl ((if0 _ _).trans (teq hc452).1) (by decide) (by decide) ?_
                exact kk)
              exact tail448 ⟨.null, T413, _, X413, N413, e413, pre453, (by unfold Expd; simp [hc450, hc452]), rfl⟩
            · skip
              obtain ⟨T454, X454, e454, st454⟩ := getS2 X413 hx hZ hown (host := "") (Or.inl (hw _ (mg (i := 90) rfl))) Via.refl e413 (p4_S.ext O414.2) (g := (mkF m 384 #[.val (.int i0), .val (.long j1), .second, .val (.int i3), .val (.int i4), .val (.ref b31), .val (.ref b60), .val (.int ti), .val (.int pi), .val (.ref b378), .val (.int 1), .val (.ref b31), .val (.ref b60), .val (.int 23), .val .null] [])) rfl (hb hby at_384)
              have pre455 : ∀ tz_, Steps p.tables e below (T454.setTop (mkF m 389 #[.val (.int i0), .val (.long j1), .second, .val (.int i3), .val (.int i4), .val (.ref b31), .val (.ref b60), .val (.int ti), .val (.int pi), .val (.ref b378), .val (.int 1), .val (.ref b31), .val (.ref b60), .val (.int 23), .val (.ref wp)] [])) tz_ → Steps p.tables e below (s₁.setTop (entryFrame m #[(.int i0), (.long j1), (.int i3), (.int i4)] maxLocals)) tz_ := fun tz_ kk => pre451 tz_ (by
                show Steps p.tables e below (T413.setTop (mkF m 376 #[.val (.int i0), .val (.long j1), .second, .val (.int i3), .val (.int i4), .val (.ref b31), .val (.ref b60), .val (.int ti), .val (.int pi), .val (.ref b378), .val (.int 1), .val (.ref b31), .val (.ref b60), .val (.int 23), .val .null] [(.int pi)])) _
                refine XS.ifNo X413.here hx rfl (hb hby at_376) rfl ((if0 _ _).trans (feq hc452).1) ?_
                refine XS.iload X413.here hx rfl (hb hby at_379) rfl ?_
                show Steps p.tables e below (T413.setTop (mkF m 381 #[.val (.int i0), .val (.long j1), .second, .val (.int i3), .val (.int i4), .val (.ref b31), .val (.ref b60), .val (.int ti), .val (.int pi), .val (.ref b378), .val (.int 1), .val (.ref b31), .val (.ref b60), .val (.int 23), .val .null] [(.int ti)])) _
                refine XS.ifNo X413.here hx rfl (hb hby at_381) rfl ((if0 _ _).trans (teq hc450).2) ?_
                show Steps p.tables e below (T413.setTop (mkF m 384 #[.val (.int i0), .val (.long j1), .second, .val (.int i3), .val (.int i4), .val (.ref b31), .val (.ref b60), .val (.int ti), .val (.int pi), .val (.ref b378), .val (.int 1), .val (.ref b31), .val (.ref b60), .val (.int 23), .val .null] [])) _
                refine st454 _ ?_
                show Steps p.tables e below (T454.setTop (mkF m 387 #[.val (.int i0), .val (.long j1), .second, .val (.int i3), .val (.int i4), .val (.ref b31), .val (.ref b60), .val (.int ti), .val (.int pi), .val (.ref b378), .val (.int 1), .val (.ref b31), .val (.ref b60), .val (.int 23), .val .null] [(.ref wp)])) _
                refine XS.astore X454.here hx rfl (hb hby at_387) rfl rfl (l' := #[.val (.int i0), .val (.long j1), .second, .val (.int i3), .val (.int i4), .val (.ref b31), .val (.ref b60), .val (.int ti), .val (.int pi), .val (.ref b378), .val (.int 1), .val (.ref b31), .val (.ref b60), .val (.int 23), .val (.ref wp)]) rfl ?_
                exact kk)
              exact tail448 ⟨(.ref wp), T454, _, X454, N413, e454, pre455, (by unfold Expd; simp [hc450, hc452]), rfl⟩
          · skip
            have pre456 : ∀ tz_, Steps p.tables e below (T413.setTop (mkF m 363 #[.val (.int i0), .val (.long j1), .second, .val (.int i3), .val (.int i4), .val (.ref b31), .val (.ref b60), .val (.int ti), .val (.int pi), .val (.ref b378), .val (.int 1), .val (.ref b31), .val (.ref b60), .val (.int 23), .val .null] [(.int pi)])) tz_ → Steps p.tables e below (s₁.setTop (entryFrame m #[(.int i0), (.long j1), (.int i3), (.int i4)] maxLocals)) tz_ := fun tz_ kk => pre449 tz_ (by
              show Steps p.tables e below (T413.setTop (mkF m 358 #[.val (.int i0), .val (.long j1), .second, .val (.int i3), .val (.int i4), .val (.ref b31), .val (.ref b60), .val (.int ti), .val (.int pi), .val (.ref b378), .val (.int 1), .val (.ref b31), .val (.ref b60), .val (.int 23), .val .null] [(.int ti)])) _
              refine XS.ifNo X413.here hx rfl (hb hby at_358) rfl ((if0 _ _).trans (feq hc450).1) ?_
              refine XS.iload X413.here hx rfl (hb hby at_361) rfl ?_
              exact kk)
            by_cases hc457 : pi = (0 : Int32)
            · skip
              obtain ⟨T458, X458, e458, st458⟩ := getS2 X413 hx hZ hown (host := "") (Or.inl (hw _ (mg (i := 91) rfl))) Via.refl e413 (p3_S.ext O414.2) (g := (mkF m 366 #[.val (.int i0), .val (.long j1), .second, .val (.int i3), .val (.int i4), .val (.ref b31), .val (.ref b60), .val (.int ti), .val (.int pi), .val (.ref b378), .val (.int 1), .val (.ref b31), .val (.ref b60), .val (.int 23), .val .null] [])) rfl (hb hby at_366)
              have pre459 : ∀ tz_, Steps p.tables e below (T458.setTop (mkF m 389 #[.val (.int i0), .val (.long j1), .second, .val (.int i3), .val (.int i4), .val (.ref b31), .val (.ref b60), .val (.int ti), .val (.int pi), .val (.ref b378), .val (.int 1), .val (.ref b31), .val (.ref b60), .val (.int 23), .val (.ref wt)] [])) tz_ → Steps p.tables e below (s₁.setTop (entryFrame m #[(.int i0), (.long j1), (.int i3), (.int i4)] maxLocals)) tz_ := fun tz_ kk => pre456 tz_ (by
                show Steps p.tables e below (T413.setTop (mkF m 363 #[.val (.int i0), .val (.long j1), .second, .val (.int i3), .val (.int i4), .val (.ref b31), .val (.ref b60), .val (.int ti), .val (.int pi), .val (.ref b378), .val (.int 1), .val (.ref b31), .val (.ref b60), .val (.int 23), .val .null] [(.int pi)])) _
                refine XS.ifNo X413.here hx rfl (hb hby at_363) rfl ((if0 _ _).trans (teq hc457).2) ?_
                show Steps p.tables e below (T413.setTop (mkF m 366 #[.val (.int i0), .val (.long j1), .second, .val (.int i3), .val (.int i4), .val (.ref b31), .val (.ref b60), .val (.int ti), .val (.int pi), .val (.ref b378), .val (.int 1), .val (.ref b31), .val (.ref b60), .val (.int 23), .val .null] [])) _
                refine st458 _ ?_
                show Steps p.tables e below (T458.setTop (mkF m 369 #[.val (.int i0), .val (.long j1), .second, .val (.int i3), .val (.int i4), .val (.ref b31), .val (.ref b60), .val (.int ti), .val (.int pi), .val (.ref b378), .val (.int 1), .val (.ref b31), .val (.ref b60), .val (.int 23), .val .null] [(.ref wt)])) _
                refine XS.astore X458.here hx rfl (hb hby at_369) rfl rfl (l' := #[.val (.int i0), .val (.long j1), .second, .val (.int i3), .val (.int i4), .val (.ref b31), .val (.ref b60), .val (.int ti), .val (.int pi), .val (.ref b378), .val (.int 1), .val (.ref b31), .val (.ref b60), .val (.int 23), .val (.ref wt)]) rfl ?_
                refine XS.goto X458.here hx rfl (pc0 := 371) (pc' := 389) rfl (hb hby at_371) (by decide) (by decide) ?_
                exact kk)
              exact tail448 ⟨(.ref wt), T458, _, X458, N413, e458, pre459, (by unfold Expd; simp [hc450, hc457]), rfl⟩
            · skip
              have pre460 : ∀ tz_, Steps p.tables e below (T413.setTop (mkF m 389 #[.val (.int i0), .val (.long j1), .second, .val (.int i3), .val (.int i4), .val (.ref b31), .val (.ref b60), .val (.int ti), .val (.int pi), .val (.ref b378), .val (.int 1), .val (.ref b31), .val (.ref b60), .val (.int 23), .val .null] [])) tz_ → Steps p.tables e below (s₁.setTop (entryFrame m #[(.int i0), (.long j1), (.int i3), (.int i4)] maxLocals)) tz_ := fun tz_ kk => pre456 tz_ (by
                show Steps p.tables e below (T413.setTop (mkF m 363 #[.val (.int i0), .val (.long j1), .second, .val (.int i3), .val (.int i4), .val (.ref b31), .val (.ref b60), .val (.int ti), .val (.int pi), .val (.ref b378), .val (.int 1), .val (.ref b31), .val (.ref b60), .val (.int 23), .val .null] [(.int pi)])) _
                refine XS.ifYes X413.here hx rfl (pc0 := 363) (pc' := 374) rfl (hb hby at_363) rfl ((if0 _ _).trans (feq hc457).2) (by decide) (by decide) ?_
                refine XS.iload X413.here hx rfl (hb hby at_374) rfl ?_
                show Steps p.tables e below (T413.setTop (mkF m 376 #[.val (.int i0), .val (.long j1), .second, .val (.int i3), .val (.int i4), .val (.ref b31), .val (.ref b60), .val (.int ti), .val (.int pi), .val (.ref b378), .val (.int 1), .val (.ref b31), .val (.ref b60), .val (.int 23), .val .null] [(.int pi)])) _
                refine XS.ifNo X413.here hx rfl (hb hby at_376) rfl ((if0 _ _).trans (feq hc457).1) ?_
                show Steps p.tables e below (T413.setTop (mkF m 379 #[.val (.int i0), .val (.long j1), .second, .val (.int i3), .val (.int i4), .val (.ref b31), .val (.ref b60), .val (.int ti), .val (.int pi), .val (.ref b378), .val (.int 1), .val (.ref b31), .val (.ref b60), .val (.int 23), .val .null] [])) _
                refine XS.iload X413.here hx rfl (hb hby at_379) rfl ?_
                show Steps p.tables e below (T413.setTop (mkF m 381 #[.val (.int i0), .val (.long j1), .second, .val (.int i3), .val (.int i4), .val (.ref b31), .val (.ref b60), .val (.int ti), .val (.int pi), .val (.ref b378), .val (.int 1), .val (.ref b31), .val (.ref b60), .val (.int 23), .val .null] [(.int ti)])) _
                refine XS.ifYes X413.here hx rfl (pc0 := 381) (pc' := 389) rfl (hb hby at_381) rfl ((if0 _ _).trans (feq hc450).2) (by decide) (by decide) ?_
                exact kk)
              exact tail448 ⟨.null, T413, _, X413, N413, e413, pre460, (by unfold Expd; simp [hc450, hc457]), rfl⟩
        · skip
          rintro ⟨ev, T448, Lq448, X448, N448, e448, pre448, hev, rev⟩
          obtain ⟨T461, h461, X461, e461, E461, A461, D461, -, st461⟩ := newO X448 hx hZ hown (hw _ (mg (i := 9) rfl)) (hw _ (mg (i := 10) rfl)) (hw _ (mg (i := 11) rfl)) e448 (g := (mkF m 389 #[.val (.int i0), .val (.long j1), .second, .val (.int i3), .val (.int i4), .val (.ref b31), .val (.ref b60), .val (.int ti), .val (.int pi), .val (.ref b378), .val (.int 1), .val (.ref b31), .val (.ref b60), .val (.int 23), .val ev] [])) rfl (hb hby at_389) (by decide) (by decide)
          obtain ⟨b461, q461⟩ : ∃ z, z = h413.size := ⟨_, rfl⟩
          rw [← q461] at A461 D461 st461
          have g_b461 : n0 ≤ b461 := Nat.le_trans (own_le O414) (Nat.le_of_eq q461.symm)
          have sz_b461 : h0.size ≤ b461 := Nat.le_trans K414.1 (Nat.le_of_eq q461.symm)
          have K462 := K414.ext E461
          have O462 := O414.ext E461
          have F461_coder : Fld Z h461 b461 "java/lang/String" "coder" "B" (.int 0) := D461 (Or.inr (hw _ (mg (i := 35) rfl))) (ty := .byte) (by decide)
          have F461_value : Fld Z h461 b461 "java/lang/String" "value" "[B" .null := D461 (Or.inr (hw _ (mg (i := 37) rfl))) (ty := (.array .byte)) (by decide)
          have f463 := (V413.ext E461)
          have ne464 : b461 ≠ b378 := (Ne.symm (Nat.ne_of_lt (Nat.lt_of_lt_of_le V413.lt (Nat.le_of_eq q461.symm))))
          -- pc 395: String.init
          obtain ⟨_, _, ⟨T465, L465, k465, n465⟩, -, X465, ⟨Lc465, hQ465, l465, y465, z465⟩, st465⟩ := X461.specialBack hx (y := (⟨"java/lang/String", "<init>", "([C)V"⟩ : MethodName)) rfl hown (mvT hZ (hw _ (mg (i := 12) rfl))) (mvT hZ (hw _ (mg (i := 13) rfl))) (mvT hZ (hw _ (mg (i := 14) rfl))) (by decide) (backOf (W := 1) (sc25 l Z av0 hw [] b461 b378 (gapv j1 (0 : Int32)) (gapv j1 (1 : Int32)) x0 x1 x2 x3 x4 x5 x6 x7 x8 (gapv j1 (2 : Int32)) (gapv j1 (3 : Int32)) y0 y1 y2 y3 y4 y5 y6 y7 y8 y9 (gapv j1 (4 : Int32)) (gapv j1 (5 : Int32)) k378 cs h461 n0 (own_le O462) O462 p1_S (hcs : ¬ (cs = (0 : Int32))) A461 F461_value F461_coder g_b461 f463 ne464 (own_ch255 (own_gapch j1 (0 : Int32)) : ¬ ((255 : Int32) < (gapv j1 (0 : Int32)))) (own_ch255 (own_gapch j1 (1 : Int32)) : ¬ ((255 : Int32) < (gapv j1 (1 : Int32)))) (own_ch255 (hc_x0) : ¬ ((255 : Int32) < x0)) (own_ch255 (hc_x1) : ¬ ((255 : Int32) < x1)) (own_ch255 (hc_x2) : ¬ ((255 : Int32) < x2)) (own_ch255 (hc_x3) : ¬ ((255 : Int32) < x3)) (own_ch255 (hc_x4) : ¬ ((255 : Int32) < x4)) (own_ch255 (hc_x5) : ¬ ((255 : Int32) < x5)) (own_ch255 (hc_x6) : ¬ ((255 : Int32) < x6)) (own_ch255 (hc_x7) : ¬ ((255 : Int32) < x7)) (own_ch255 (hc_x8) : ¬ ((255 : Int32) < x8)) (own_ch255 (own_gapch j1 (2 : Int32)) : ¬ ((255 : Int32) < (gapv j1 (2 : Int32)))) (own_ch255 (own_gapch j1 (3 : Int32)) : ¬ ((255 : Int32) < (gapv j1 (3 : Int32)))) (own_ch255 (hc_y0) : ¬ ((255 : Int32) < y0)) (own_ch255 (hc_y1) : ¬ ((255 : Int32) < y1)) (own_ch255 (hc_y2) : ¬ ((255 : Int32) < y2)) (own_ch255 (hc_y3) : ¬ ((255 : Int32) < y3)) (own_ch255 (hc_y4) : ¬ ((255 : Int32) < y4)) (own_ch255 (hc_y5) : ¬ ((255 : Int32) < y5)) (own_ch255 (hc_y6) : ¬ ((255 : Int32) < y6)) (own_ch255 (hc_y7) : ¬ ((255 : Int32) < y7)) (own_ch255 (hc_y8) : ¬ ((255 : Int32) < y8)) (own_ch255 (hc_y9) : ¬ ((255 : Int32) < y9)) (own_ch255 (own_gapch j1 (4 : Int32)) : ¬ ((255 : Int32) < (gapv j1 (4 : Int32)))) (own_ch255 (own_gapch j1 (5 : Int32)) : ¬ ((255 : Int32) < (gapv j1 (5 : Int32))))) hZ (hw _ (mg (i := 14) rfl)) (hw _ (mg (i := 11) rfl)) (by decide) (by decide)) (g := (mkF m 395 #[.val (.int i0), .val (.long j1), .second, .val (.int i3), .val (.int i4), .val (.ref b31), .val (.ref b60), .val (.int ti), .val (.int pi), .val (.ref b378), .val (.int 1), .val (.ref b31), .val (.ref b60), .val (.int 23), .val ev] [(.ref b378), (.ref b461), (.ref b461)])) rfl (by rw [hml]; rfl) (Steps.refl _) (a := b461) (argsL := [(.ref b378)]) (rest := [(.ref b461)]) (lenOf pd_2 rfl) rfl (by show 2 * 0 + _ ≤ _; exact Nat.le_of_eq rfl) (hb hby at_395) (fun vmx hWx => ⟨rfl, e461, (by decide : 4 + 1 ≤ _), (by decide : 48 + 25 ≤ _)⟩)
          dsimp only [Pt.U, Pt.locs, Pt.cells, Pt.slots] at X465 l465 y465 z465 st465 hQ465
          subst l465 y465 z465
          obtain ⟨b_465, kb_465, rv465, Nq465, Kq465, u465_0, u465_1, u465_2, u465_3, u465_4⟩ := hQ465
          subst rv465
          have N465 := Fr.app N448 Nq465
          have g_b_465 : n0 ≤ b_465 := Nat.le_trans (own_le O462) u465_0
          have sz_b_465 : h0.size ≤ b_465 := Nat.le_trans K462.1 u465_0
          have K466 := K462.trans Kq465 (allS (Or.inr sz_b461) all0)
          have O466 := O462.keep Kq465 (allS g_b461 all0)
          obtain ⟨tq, htq⟩ : ∃ z, z = text2 ((gapv j1 (0 : Int32)).toInt8.toInt32) ((gapv j1 (1 : Int32)).toInt8.toInt32) ((gapv j1 (2 : Int32)).toInt8.toInt32) ((gapv j1 (3 : Int32)).toInt8.toInt32) ((gapv j1 (4 : Int32)).toInt8.toInt32) ((gapv j1 (5 : Int32)).toInt8.toInt32) ([x0, x1, x2, x3, x4, x5, x6, x7, x8].map b8) ([y0, y1, y2, y3, y4, y5, y6, y7, y8, y9].map b8) := ⟨_, rfl⟩
          have ax467 : ∀ x ∈ [x0, x1, x2, x3, x4, x5, x6, x7, x8], Ch x := own_all _ (fun i hi => by
            match i, hi with
            | 0, _ => exact hc_x0
            | 1, _ => exact hc_x1
            | 2, _ => exact hc_x2
            | 3, _ => exact hc_x3
            | 4, _ => exact hc_x4
            | 5, _ => exact hc_x5
            | 6, _ => exact hc_x6
            | 7, _ => exact hc_x7
            | 8, _ => exact hc_x8)
          have ay467 : ∀ x ∈ [y0, y1, y2, y3, y4, y5, y6, y7, y8, y9], Ch x := own_all _ (fun i hi => by
            match i, hi with
            | 0, _ => exact hc_y0
            | 1, _ => exact hc_y1
            | 2, _ => exact hc_y2
            | 3, _ => exact hc_y3
            | 4, _ => exact hc_y4
            | 5, _ => exact hc_y5
            | 6, _ => exact hc_y6
            | 7, _ => exact hc_y7
            | 8, _ => exact hc_y8
            | 9, _ => exact hc_y9)
          have hrv467 : HRv tq wt wp ev := by rw [htq]; exact own_hrv_tp ht hp ax467 ay467 hev
          have f468 := ((f416.ext E461).keep Kq465)
          have ne469 : wt ≠ b461 := (Nat.ne_of_lt (Nat.lt_of_lt_of_le f416.lt (Nat.le_of_eq q461.symm)))
          have f470 := ((f420.ext E461).keep Kq465 (ninS ne469 nin0))
          have f471 := ((f421.ext E461).keep Kq465)
          have ne472 : tt ≠ b461 := (Nat.ne_of_lt (Nat.lt_of_lt_of_le f421.lt (Nat.le_of_eq q461.symm)))
          have f473 := ((f425.ext E461).keep Kq465 (ninS ne472 nin0))
          have f474 := ((f426.ext E461).keep Kq465 (ninS ne472 nin0))
          have ne475 : vbt ≠ b461 := (Nat.ne_of_lt (Nat.lt_of_lt_of_le f430.lt (Nat.le_of_eq q461.symm)))
          have f476 := ((f430.ext E461).keep Kq465 (ninS ne475 nin0))
          have f477 := ((f431.ext E461).keep Kq465)
          have ne478 : wp ≠ b461 := (Nat.ne_of_lt (Nat.lt_of_lt_of_le f431.lt (Nat.le_of_eq q461.symm)))
          have f479 := ((f435.ext E461).keep Kq465 (ninS ne478 nin0))
          have f480 := ((f436.ext E461).keep Kq465)
          have ne481 : tp ≠ b461 := (Nat.ne_of_lt (Nat.lt_of_lt_of_le f436.lt (Nat.le_of_eq q461.symm)))
          have f482 := ((f440.ext E461).keep Kq465 (ninS ne481 nin0))
          have f483 := ((f441.ext E461).keep Kq465 (ninS ne481 nin0))
          have ne484 : vbp ≠ b461 := (Nat.ne_of_lt (Nat.lt_of_lt_of_le f445.lt (Nat.le_of_eq q461.symm)))
          have f485 := ((f445.ext E461).keep Kq465 (ninS ne484 nin0))
          -- pc 398: OwnerFilter.writtenIn
          obtain ⟨_, _, ⟨T486, L486, k486, n486⟩, -, X486, ⟨Lc486, hQ486, l486, y486, z486⟩, st486⟩ := Jvm.LawKit.callS X465 hx (y := (⟨"com/example/ulinzi/ulinzi/model/OwnerFilter", "writtenIn", "(Ljava/lang/String;)Lcom/example/ulinzi/ulinzi/model/OwnerName;"⟩ : MethodName)) hown (mvT hZ (hw _ (mg (i := 38) rfl))) (mvT hZ (hw _ (mg (i := 39) rfl))) (mvT hZ (hw _ (mg (i := 40) rfl))) (mvT hZ (hw _ (mg (i := 41) rfl))) (by decide) (backOf (W := 0) (rm9 l Z av0 hw [] b461 tq [(.int ((gapv j1 (0 : Int32)).toInt8.toInt32)), (.int ((gapv j1 (1 : Int32)).toInt8.toInt32)), (.int (x0.toInt8.toInt32)), (.int (x1.toInt8.toInt32)), (.int (x2.toInt8.toInt32)), (.int (x3.toInt8.toInt32)), (.int (x4.toInt8.toInt32)), (.int (x5.toInt8.toInt32)), (.int (x6.toInt8.toInt32)), (.int (x7.toInt8.toInt32)), (.int (x8.toInt8.toInt32)), (.int ((gapv j1 (2 : Int32)).toInt8.toInt32)), (.int ((gapv j1 (3 : Int32)).toInt8.toInt32)), (.int (y0.toInt8.toInt32)), (.int (y1.toInt8.toInt32)), (.int (y2.toInt8.toInt32)), (.int (y3.toInt8.toInt32)), (.int (y4.toInt8.toInt32)), (.int (y5.toInt8.toInt32)), (.int (y6.toInt8.toInt32)), (.int (y7.toInt8.toInt32)), (.int (y8.toInt8.toInt32)), (.int (y9.toInt8.toInt32)), (.int ((gapv j1 (4 : Int32)).toInt8.toInt32)), (.int ((gapv j1 (5 : Int32)).toInt8.toInt32))] kb_465 b_465 ev wt wp tt tp vbt vbp kbt kbp cs T465.heap n0 (own_le O466) O466 p1_S (hcs : ¬ (cs = (0 : Int32))) p3_S p4_S f468 f470 f471 f473 f474 f476 f477 f479 f480 f482 f483 f485 u465_1 u465_3 u465_2 u465_4 ((by rw [htq]; rfl) : [(.int ((gapv j1 (0 : Int32)).toInt8.toInt32)), (.int ((gapv j1 (1 : Int32)).toInt8.toInt32)), (.int (x0.toInt8.toInt32)), (.int (x1.toInt8.toInt32)), (.int (x2.toInt8.toInt32)), (.int (x3.toInt8.toInt32)), (.int (x4.toInt8.toInt32)), (.int (x5.toInt8.toInt32)), (.int (x6.toInt8.toInt32)), (.int (x7.toInt8.toInt32)), (.int (x8.toInt8.toInt32)), (.int ((gapv j1 (2 : Int32)).toInt8.toInt32)), (.int ((gapv j1 (3 : Int32)).toInt8.toInt32)), (.int (y0.toInt8.toInt32)), (.int (y1.toInt8.toInt32)), (.int (y2.toInt8.toInt32)), (.int (y3.toInt8.toInt32)), (.int (y4.toInt8.toInt32)), (.int (y5.toInt8.toInt32)), (.int (y6.toInt8.toInt32)), (.int (y7.toInt8.toInt32)), (.int (y8.toInt8.toInt32)), (.int (y9.toInt8.toInt32)), (.int ((gapv j1 (4 : Int32)).toInt8.toInt32)), (.int ((gapv j1 (5 : Int32)).toInt8.toInt32))] = tq.map Value.int) ((by rw [htq]; rfl) : tq.length = 25) rev (hrv467 : HRv tq wt wp ev)) hZ (hw _ (mg (i := 41) rfl)) (hw _ (mg (i := 40) rfl)) (by decide) (by decide)) (g := (mkF m 398 #[.val (.int i0), .val (.long j1), .second, .val (.int i3), .val (.int i4), .val (.ref b31), .val (.ref b60), .val (.int ti), .val (.int pi), .val (.ref b378), .val (.int 1), .val (.ref b31), .val (.ref b60), .val (.int 23), .val ev] [(.ref b461)])) rfl (by rw [hml]; rfl) (argsL := [(.ref b461)]) (rest := []) (lenOf pd_8 rfl) rfl (by show 2 * 0 + _ ≤ _; exact Nat.le_of_eq rfl) (hb hby at_398) (fun vmx hWx => ⟨rfl, rfl, (by decide : 5 + 0 ≤ _), (by decide : 73 + 0 ≤ _)⟩)
          dsimp only [Pt.U, Pt.locs, Pt.cells, Pt.slots] at X486 l486 y486 z486 st486 hQ486
          subst l486 y486 z486
          obtain ⟨rv486, Nq486, Kq486⟩ := hQ486
          subst rv486
          have N486 := Fr.app N465 Nq486
          obtain ⟨fs, hrL, hrun, hended, hW, hsame⟩ := X486.leave (v := some (.int 1)) (fun h => by rw [Bd.returns] at h; cases h)
          refine ⟨_, _, pre448 _ ?_, hrun, hended, _, _, rfl, ?_, ⟨_, rfl⟩, hW, hsame.mono (by decide) (by decide)⟩
          · show Steps p.tables e below (T448.setTop (mkF m 389 #[.val (.int i0), .val (.long j1), .second, .val (.int i3), .val (.int i4), .val (.ref b31), .val (.ref b60), .val (.int ti), .val (.int pi), .val (.ref b378), .val (.int 1), .val (.ref b31), .val (.ref b60), .val (.int 23), .val ev] [])) _
            refine st461 _ ?_
            refine XS.dup X461.here hx rfl (hb hby at_392) rfl rfl ?_
            show Steps p.tables e below (T461.setTop (mkF m 393 #[.val (.int i0), .val (.long j1), .second, .val (.int i3), .val (.int i4), .val (.ref b31), .val (.ref b60), .val (.int ti), .val (.int pi), .val (.ref b378), .val (.int 1), .val (.ref b31), .val (.ref b60), .val (.int 23), .val ev] [(.ref b461), (.ref b461)])) _
            refine XS.aload X461.here hx rfl (hb hby at_393) rfl rfl ?_
            show Steps p.tables e below (T461.setTop (mkF m 395 #[.val (.int i0), .val (.long j1), .second, .val (.int i3), .val (.int i4), .val (.ref b31), .val (.ref b60), .val (.int ti), .val (.int pi), .val (.ref b378), .val (.int 1), .val (.ref b31), .val (.ref b60), .val (.int 23), .val ev] [(.ref b378), (.ref b461), (.ref b461)])) _
            refine st465.trans ?_
            show Steps p.tables e below (T465.setTop (mkF m 398 #[.val (.int i0), .val (.long j1), .second, .val (.int i3), .val (.int i4), .val (.ref b31), .val (.ref b60), .val (.int ti), .val (.int pi), .val (.ref b378), .val (.int 1), .val (.ref b31), .val (.ref b60), .val (.int 23), .val ev] [(.ref b461)])) _
            refine st486 _ ?_
            refine XS.aload X486.here hx rfl (hb hby at_401) rfl rev ?_
            show Steps p.tables e below (T486.setTop (mkF m 403 #[.val (.int i0), .val (.long j1), .second, .val (.int i3), .val (.int i4), .val (.ref b31), .val (.ref b60), .val (.int ti), .val (.int pi), .val (.ref b378), .val (.int 1), .val (.ref b31), .val (.ref b60), .val (.int 23), .val ev] [ev, ev])) _
            refine Jvm.RoadKit.acmp (g := (mkF m 403 #[.val (.int i0), .val (.long j1), .second, .val (.int i3), .val (.int i4), .val (.ref b31), .val (.ref b60), .val (.int ti), .val (.int pi), .val (.ref b378), .val (.int 1), .val (.ref b31), .val (.ref b60), .val (.int 23), .val ev] [ev, ev])) X486 hx rfl rev rev (pc0 := 403) (pc' := 406) (same := true) rfl (hb hby at_403) rfl (decide_eq_true rfl) (by decide) (by decide) ?_
            refine XS.iconst X486.here hx rfl (hb hby at_406) ?_
            refine XS.goto X486.here hx rfl (pc0 := 407) (pc' := 411) rfl (hb hby at_407) (by decide) (by decide) ?_
            show Steps p.tables e below (T486.setTop (mkF m 411 #[.val (.int i0), .val (.long j1), .second, .val (.int i3), .val (.int i4), .val (.ref b31), .val (.ref b60), .val (.int ti), .val (.int pi), .val (.ref b378), .val (.int 1), .val (.ref b31), .val (.ref b60), .val (.int 23), .val ev] [(.int 1)])) _
            exact retN X486 hx (t := .boolean) Bd.returns (by simp) (hb hby at_411) hrL
          · show Q_rm0 _ _ _ _ _ _ _ _ _ _ _ _ _ _ _ _ _  T486.heap _
            rw [Kq486]
            exact ⟨rfl, N486, K466⟩
      · skip
        -- pc 273: OwnerFilterWrittenInPinLaw.gap
        obtain ⟨_, _, ⟨T487, L487, k487, n487⟩, -, X487, ⟨Lc487, hQ487, l487, y487, z487⟩, st487⟩ := Jvm.LawKit.callS X378 hx (y := (⟨"com/example/ulinzi/ulinzi/model/OwnerFilterWrittenInPinLaw", "gap", "(JI)C"⟩ : MethodName)) hown (mvT hZ (hw _ (mg (i := 1) rfl))) (mvT hZ (hw _ (mg (i := 2) rfl))) (mvT hZ (hw _ (mg (i := 3) rfl))) (mvT hZ (hw _ (mg (i := 4) rfl))) (by decide) (backOf (W := 2) (rm1 l Z av0 hw [] j1 (0 : Int32) h378 n0 (own_le O379) ) hZ (hw _ (mg (i := 4) rfl)) (hw _ (mg (i := 3) rfl)) (by decide) (by decide)) (g := (mkF m 273 #[.val (.int i0), .val (.long j1), .second, .val (.int i3), .val (.int i4), .val (.ref b31), .val (.ref b60), .val (.int ti), .val (.int pi), .val (.ref b378), .val (.int 0), .val (.ref b60), .val (.ref b31), .unset, .unset] [(.int 0), (.long j1), (.int 0), (.ref b378)])) rfl (by rw [hml]; rfl) (argsL := [(.long j1), (.int 0)]) (rest := [(.int 0), (.ref b378)]) (lenOf pd_0 rfl) rfl (by show 2 * 0 + _ ≤ _; exact Nat.le_of_eq rfl) (hb hby at_273) (fun vmx hWx => ⟨rfl, e378, (by decide : 3 + 0 ≤ _), (by decide : 44 + 0 ≤ _)⟩)
        dsimp only [Pt.U, Pt.locs, Pt.cells, Pt.slots] at X487 l487 y487 z487 st487 hQ487
        subst l487 y487 z487
        obtain ⟨rv487, Nq487, Kq487⟩ := hQ487
        subst rv487
        have N487 := Fr.app N229 Nq487
        obtain ⟨cl488, Ar488, qk488, qs488, qn488, qh488, qg488⟩ := id V378
        have hin488 : ¬ ((0 : Int32) < 0 ∨ cl488.slots.size ≤ ((0 : Int32)).toNatClampNeg) := inb_of qs488 ⟨by decide, by decide⟩
        obtain ⟨T489, h489, X489, e489, W489, st489⟩ := stC X487 hx hZ Kq487 Ar488 (j := (0 : Int32)) hin488 (g := (mkF m 276 #[.val (.int i0), .val (.long j1), .second, .val (.int i3), .val (.int i4), .val (.ref b31), .val (.ref b60), .val (.int ti), .val (.int pi), .val (.ref b378), .val (.int 0), .val (.ref b60), .val (.ref b31), .unset, .unset] [(.int (gapv j1 (0 : Int32))), (.int 0), (.ref b378)])) rfl rfl (hb hby at_276)
        have V489 : Arv Z h489 b378 k378 .char (25 : Int32) [(.int ((gapv j1 (0 : Int32)).toUInt32.toUInt16.toUInt32.toInt32)), (.int 0), (.int 0), (.int 0), (.int 0), (.int 0), (.int 0), (.int 0), (.int 0), (.int 0), (.int 0), (.int 0), (.int 0), (.int 0), (.int 0), (.int 0), (.int 0), (.int 0), (.int 0), (.int 0), (.int 0), (.int 0), (.int 0), (.int 0), (.int 0)] (.int 0) := Arv.set Ar488 qk488 qs488 qn488 qh488 qg488 (fits_nar_char _) W489 0 rfl (Nat.le_of_ble_eq_true rfl)
        rw [own_chn (own_gapch _ _)] at V489
        have N489 := Fr.snoc X489 N487 g_b378
        have K490 := K379.wr W489 (Or.inr sz_b378)
        have O490 := O379.wr W489 g_b378
        -- pc 282: OwnerFilterWrittenInPinLaw.gap
        obtain ⟨_, _, ⟨T491, L491, k491, n491⟩, -, X491, ⟨Lc491, hQ491, l491, y491, z491⟩, st491⟩ := Jvm.LawKit.callS X489 hx (y := (⟨"com/example/ulinzi/ulinzi/model/OwnerFilterWrittenInPinLaw", "gap", "(JI)C"⟩ : MethodName)) hown (mvT hZ (hw _ (mg (i := 1) rfl))) (mvT hZ (hw _ (mg (i := 2) rfl))) (mvT hZ (hw _ (mg (i := 3) rfl))) (mvT hZ (hw _ (mg (i := 4) rfl))) (by decide) (backOf (W := 2) (rm1 l Z av0 hw [] j1 (1 : Int32) h489 n0 (own_le O490) ) hZ (hw _ (mg (i := 4) rfl)) (hw _ (mg (i := 3) rfl)) (by decide) (by decide)) (g := (mkF m 282 #[.val (.int i0), .val (.long j1), .second, .val (.int i3), .val (.int i4), .val (.ref b31), .val (.ref b60), .val (.int ti), .val (.int pi), .val (.ref b378), .val (.int 0), .val (.ref b60), .val (.ref b31), .unset, .unset] [(.int 1), (.long j1), (.int 1), (.ref b378)])) rfl (by rw [hml]; rfl) (argsL := [(.long j1), (.int 1)]) (rest := [(.int 1), (.ref b378)]) (lenOf pd_0 rfl) rfl (by show 2 * 0 + _ ≤ _; exact Nat.le_of_eq rfl) (hb hby at_282) (fun vmx hWx => ⟨rfl, e489, (by decide : 3 + 0 ≤ _), (by decide : 44 + 0 ≤ _)⟩)
        dsimp only [Pt.U, Pt.locs, Pt.cells, Pt.slots] at X491 l491 y491 z491 st491 hQ491
        subst l491 y491 z491
        obtain ⟨rv491, Nq491, Kq491⟩ := hQ491
        subst rv491
        have N491 := Fr.app N489 Nq491
        obtain ⟨cl492, Ar492, qk492, qs492, qn492, qh492, qg492⟩ := id V489
        have hin492 : ¬ ((1 : Int32) < 0 ∨ cl492.slots.size ≤ ((1 : Int32)).toNatClampNeg) := inb_of qs492 ⟨by decide, by decide⟩
        obtain ⟨T493, h493, X493, e493, W493, st493⟩ := stC X491 hx hZ Kq491 Ar492 (j := (1 : Int32)) hin492 (g := (mkF m 285 #[.val (.int i0), .val (.long j1), .second, .val (.int i3), .val (.int i4), .val (.ref b31), .val (.ref b60), .val (.int ti), .val (.int pi), .val (.ref b378), .val (.int 0), .val (.ref b60), .val (.ref b31), .unset, .unset] [(.int (gapv j1 (1 : Int32))), (.int 1), (.ref b378)])) rfl rfl (hb hby at_285)
        have V493 : Arv Z h493 b378 k378 .char (25 : Int32) [(.int (gapv j1 (0 : Int32))), (.int ((gapv j1 (1 : Int32)).toUInt32.toUInt16.toUInt32.toInt32)), (.int 0), (.int 0), (.int 0), (.int 0), (.int 0), (.int 0), (.int 0), (.int 0), (.int 0), (.int 0), (.int 0), (.int 0), (.int 0), (.int 0), (.int 0), (.int 0), (.int 0), (.int 0), (.int 0), (.int 0), (.int 0), (.int 0), (.int 0)] (.int 0) := Arv.set Ar492 qk492 qs492 qn492 qh492 qg492 (fits_nar_char _) W493 1 rfl (Nat.le_of_ble_eq_true rfl)
        rw [own_chn (own_gapch _ _)] at V493
        have N493 := Fr.snoc X493 N491 g_b378
        have K494 := K490.wr W493 (Or.inr sz_b378)
        have O494 := O490.wr W493 g_b378
        have ne495 : b60 ≠ b378 := (Nat.ne_of_lt (Nat.lt_of_lt_of_le j229_0.lt (Nat.le_of_eq q378.symm)))
        have f496 := (((j229_0.ext E378).other W489 ne495).other W493 ne495)
        -- pc 291: OwnerFilterWrittenInPinLaw.place
        obtain ⟨_, _, ⟨T497, L497, k497, n497⟩, -, X497, ⟨Lc497, hQ497, l497, y497, z497⟩, st497⟩ := Jvm.LawKit.callS X493 hx (y := (⟨"com/example/ulinzi/ulinzi/model/OwnerFilterWrittenInPinLaw", "place", "([CI[C)I"⟩ : MethodName)) hown (mvT hZ (hw _ (mg (i := 6) rfl))) (mvT hZ (hw _ (mg (i := 7) rfl))) (mvT hZ (hw _ (mg (i := 3) rfl))) (mvT hZ (hw _ (mg (i := 8) rfl))) (by decide) (backOf (W := 0) (place_2_10 l Z av0 hw [] b378 b60 (gapv j1 (0 : Int32)) (gapv j1 (1 : Int32)) (0 : Int32) (0 : Int32) (0 : Int32) (0 : Int32) (0 : Int32) (0 : Int32) (0 : Int32) (0 : Int32) (0 : Int32) (0 : Int32) (0 : Int32) (0 : Int32) (0 : Int32) (0 : Int32) (0 : Int32) (0 : Int32) (0 : Int32) (0 : Int32) (0 : Int32) (0 : Int32) (0 : Int32) (0 : Int32) (0 : Int32) y0 y1 y2 y3 y4 y5 y6 y7 y8 y9 k378 k60 h493 n0 (own_le O494) V493 f496 (Ne.symm ne495) g_b378 (hc_y0 : Ch y0) (hc_y1 : Ch y1) (hc_y2 : Ch y2) (hc_y3 : Ch y3) (hc_y4 : Ch y4) (hc_y5 : Ch y5) (hc_y6 : Ch y6) (hc_y7 : Ch y7) (hc_y8 : Ch y8) (hc_y9 : Ch y9)) hZ (hw _ (mg (i := 8) rfl)) (hw _ (mg (i := 3) rfl)) (by decide) (by decide)) (g := (mkF m 291 #[.val (.int i0), .val (.long j1), .second, .val (.int i3), .val (.int i4), .val (.ref b31), .val (.ref b60), .val (.int ti), .val (.int pi), .val (.ref b378), .val (.int 0), .val (.ref b60), .val (.ref b31), .unset, .unset] [(.ref b60), (.int 2), (.ref b378)])) rfl (by rw [hml]; rfl) (argsL := [(.ref b378), (.int 2), (.ref b60)]) (rest := []) (lenOf pd_1 rfl) rfl (by show 2 * 0 + _ ≤ _; exact Nat.le_of_eq rfl) (hb hby at_291) (fun vmx hWx => ⟨rfl, e493, (by decide : 3 + 0 ≤ _), (by decide : 44 + 0 ≤ _)⟩)
        dsimp only [Pt.U, Pt.locs, Pt.cells, Pt.slots] at X497 l497 y497 z497 st497 hQ497
        subst l497 y497 z497
        obtain ⟨rv497, Nq497, Kq497, u497_0⟩ := hQ497
        subst rv497
        have N497 := Fr.app N493 Nq497
        have K498 := K494.trans Kq497 (allS (Or.inr sz_b378) all0)
        have O498 := O494.keep Kq497 (allS g_b378 all0)
        -- pc 302: OwnerFilterWrittenInPinLaw.gap
        obtain ⟨_, _, ⟨T499, L499, k499, n499⟩, -, X499, ⟨Lc499, hQ499, l499, y499, z499⟩, st499⟩ := Jvm.LawKit.callS X497 hx (y := (⟨"com/example/ulinzi/ulinzi/model/OwnerFilterWrittenInPinLaw", "gap", "(JI)C"⟩ : MethodName)) hown (mvT hZ (hw _ (mg (i := 1) rfl))) (mvT hZ (hw _ (mg (i := 2) rfl))) (mvT hZ (hw _ (mg (i := 3) rfl))) (mvT hZ (hw _ (mg (i := 4) rfl))) (by decide) (backOf (W := 2) (rm1 l Z av0 hw [] j1 (2 : Int32) T497.heap n0 (own_le O498) ) hZ (hw _ (mg (i := 4) rfl)) (hw _ (mg (i := 3) rfl)) (by decide) (by decide)) (g := (mkF m 302 #[.val (.int i0), .val (.long j1), .second, .val (.int i3), .val (.int i4), .val (.ref b31), .val (.ref b60), .val (.int ti), .val (.int pi), .val (.ref b378), .val (.int 0), .val (.ref b60), .val (.ref b31), .val (.int 12), .unset] [(.int 2), (.long j1), (.int 12), (.ref b378)])) rfl (by rw [hml]; rfl) (argsL := [(.long j1), (.int 2)]) (rest := [(.int 12), (.ref b378)]) (lenOf pd_0 rfl) rfl (by show 2 * 0 + _ ≤ _; exact Nat.le_of_eq rfl) (hb hby at_302) (fun vmx hWx => ⟨rfl, rfl, (by decide : 3 + 0 ≤ _), (by decide : 44 + 0 ≤ _)⟩)
        dsimp only [Pt.U, Pt.locs, Pt.cells, Pt.slots] at X499 l499 y499 z499 st499 hQ499
        subst l499 y499 z499
        obtain ⟨rv499, Nq499, Kq499⟩ := hQ499
        subst rv499
        have N499 := Fr.app N497 Nq499
        obtain ⟨cl500, Ar500, qk500, qs500, qn500, qh500, qg500⟩ := id u497_0
        have hin500 : ¬ ((12 : Int32) < 0 ∨ cl500.slots.size ≤ ((12 : Int32)).toNatClampNeg) := inb_of qs500 ⟨by decide, by decide⟩
        obtain ⟨T501, h501, X501, e501, W501, st501⟩ := stC X499 hx hZ Kq499 Ar500 (j := (12 : Int32)) hin500 (g := (mkF m 305 #[.val (.int i0), .val (.long j1), .second, .val (.int i3), .val (.int i4), .val (.ref b31), .val (.ref b60), .val (.int ti), .val (.int pi), .val (.ref b378), .val (.int 0), .val (.ref b60), .val (.ref b31), .val (.int 12), .unset] [(.int (gapv j1 (2 : Int32))), (.int 12), (.ref b378)])) rfl rfl (hb hby at_305)
        have V501 : Arv Z h501 b378 k378 .char (25 : Int32) [(.int (gapv j1 (0 : Int32))), (.int (gapv j1 (1 : Int32))), (.int y0), (.int y1), (.int y2), (.int y3), (.int y4), (.int y5), (.int y6), (.int y7), (.int y8), (.int y9), (.int ((gapv j1 (2 : Int32)).toUInt32.toUInt16.toUInt32.toInt32)), (.int 0), (.int 0), (.int 0), (.int 0), (.int 0), (.int 0), (.int 0), (.int 0), (.int 0), (.int 0), (.int 0), (.int 0)] (.int 0) := Arv.set Ar500 qk500 qs500 qn500 qh500 qg500 (fits_nar_char _) W501 12 rfl (Nat.le_of_ble_eq_true rfl)
        rw [own_chn (own_gapch _ _)] at V501
        have N501 := Fr.snoc X501 N499 g_b378
        have K502 := K498.wr W501 (Or.inr sz_b378)
        have O502 := O498.wr W501 g_b378
        -- pc 314: OwnerFilterWrittenInPinLaw.gap
        obtain ⟨_, _, ⟨T503, L503, k503, n503⟩, -, X503, ⟨Lc503, hQ503, l503, y503, z503⟩, st503⟩ := Jvm.LawKit.callS X501 hx (y := (⟨"com/example/ulinzi/ulinzi/model/OwnerFilterWrittenInPinLaw", "gap", "(JI)C"⟩ : MethodName)) hown (mvT hZ (hw _ (mg (i := 1) rfl))) (mvT hZ (hw _ (mg (i := 2) rfl))) (mvT hZ (hw _ (mg (i := 3) rfl))) (mvT hZ (hw _ (mg (i := 4) rfl))) (by decide) (backOf (W := 2) (rm1 l Z av0 hw [] j1 (3 : Int32) h501 n0 (own_le O502) ) hZ (hw _ (mg (i := 4) rfl)) (hw _ (mg (i := 3) rfl)) (by decide) (by decide)) (g := (mkF m 314 #[.val (.int i0), .val (.long j1), .second, .val (.int i3), .val (.int i4), .val (.ref b31), .val (.ref b60), .val (.int ti), .val (.int pi), .val (.ref b378), .val (.int 0), .val (.ref b60), .val (.ref b31), .val (.int 12), .unset] [(.int 3), (.long j1), (.int 13), (.ref b378)])) rfl (by rw [hml]; rfl) (argsL := [(.long j1), (.int 3)]) (rest := [(.int 13), (.ref b378)]) (lenOf pd_0 rfl) rfl (by show 2 * 0 + _ ≤ _; exact Nat.le_of_eq rfl) (hb hby at_314) (fun vmx hWx => ⟨rfl, e501, (by decide : 3 + 0 ≤ _), (by decide : 44 + 0 ≤ _)⟩)
        dsimp only [Pt.U, Pt.locs, Pt.cells, Pt.slots] at X503 l503 y503 z503 st503 hQ503
        subst l503 y503 z503
        obtain ⟨rv503, Nq503, Kq503⟩ := hQ503
        subst rv503
        have N503 := Fr.app N501 Nq503
        obtain ⟨cl504, Ar504, qk504, qs504, qn504, qh504, qg504⟩ := id V501
        have hin504 : ¬ ((13 : Int32) < 0 ∨ cl504.slots.size ≤ ((13 : Int32)).toNatClampNeg) := inb_of qs504 ⟨by decide, by decide⟩
        obtain ⟨T505, h505, X505, e505, W505, st505⟩ := stC X503 hx hZ Kq503 Ar504 (j := (13 : Int32)) hin504 (g := (mkF m 317 #[.val (.int i0), .val (.long j1), .second, .val (.int i3), .val (.int i4), .val (.ref b31), .val (.ref b60), .val (.int ti), .val (.int pi), .val (.ref b378), .val (.int 0), .val (.ref b60), .val (.ref b31), .val (.int 12), .unset] [(.int (gapv j1 (3 : Int32))), (.int 13), (.ref b378)])) rfl rfl (hb hby at_317)
        have V505 : Arv Z h505 b378 k378 .char (25 : Int32) [(.int (gapv j1 (0 : Int32))), (.int (gapv j1 (1 : Int32))), (.int y0), (.int y1), (.int y2), (.int y3), (.int y4), (.int y5), (.int y6), (.int y7), (.int y8), (.int y9), (.int (gapv j1 (2 : Int32))), (.int ((gapv j1 (3 : Int32)).toUInt32.toUInt16.toUInt32.toInt32)), (.int 0), (.int 0), (.int 0), (.int 0), (.int 0), (.int 0), (.int 0), (.int 0), (.int 0), (.int 0), (.int 0)] (.int 0) := Arv.set Ar504 qk504 qs504 qn504 qh504 qg504 (fits_nar_char _) W505 13 rfl (Nat.le_of_ble_eq_true rfl)
        rw [own_chn (own_gapch _ _)] at V505
        have N505 := Fr.snoc X505 N503 g_b378
        have K506 := K502.wr W505 (Or.inr sz_b378)
        have O506 := O502.wr W505 g_b378
        have ne507 : b31 ≠ b60 := (Nat.ne_of_lt (Nat.lt_of_lt_of_le V58.lt (Nat.le_of_eq q60.symm)))
        have ne508 : b31 ≠ b378 := (Nat.ne_of_lt (Nat.lt_of_lt_of_le (Nat.lt_of_lt_of_le j93_0.lt Kj229.1) (Nat.le_of_eq q378.symm)))
        have f509 := (((((((j93_0.keep Kj229 (ninS ne507 nin0)).ext E378).other W489 ne508).other W493 ne508).keep Kq497 (ninS ne508 nin0)).other W501 ne508).other W505 ne508)
        -- pc 326: OwnerFilterWrittenInPinLaw.place
        obtain ⟨_, _, ⟨T510, L510, k510, n510⟩, -, X510, ⟨Lc510, hQ510, l510, y510, z510⟩, st510⟩ := Jvm.LawKit.callS X505 hx (y := (⟨"com/example/ulinzi/ulinzi/model/OwnerFilterWrittenInPinLaw", "place", "([CI[C)I"⟩ : MethodName)) hown (mvT hZ (hw _ (mg (i := 6) rfl))) (mvT hZ (hw _ (mg (i := 7) rfl))) (mvT hZ (hw _ (mg (i := 3) rfl))) (mvT hZ (hw _ (mg (i := 8) rfl))) (by decide) (backOf (W := 0) (place_14_9 l Z av0 hw [] b378 b31 (gapv j1 (0 : Int32)) (gapv j1 (1 : Int32)) y0 y1 y2 y3 y4 y5 y6 y7 y8 y9 (gapv j1 (2 : Int32)) (gapv j1 (3 : Int32)) (0 : Int32) (0 : Int32) (0 : Int32) (0 : Int32) (0 : Int32) (0 : Int32) (0 : Int32) (0 : Int32) (0 : Int32) (0 : Int32) (0 : Int32) x0 x1 x2 x3 x4 x5 x6 x7 x8 k378 k31 h505 n0 (own_le O506) V505 f509 (Ne.symm ne508) g_b378 (hc_x0 : Ch x0) (hc_x1 : Ch x1) (hc_x2 : Ch x2) (hc_x3 : Ch x3) (hc_x4 : Ch x4) (hc_x5 : Ch x5) (hc_x6 : Ch x6) (hc_x7 : Ch x7) (hc_x8 : Ch x8)) hZ (hw _ (mg (i := 8) rfl)) (hw _ (mg (i := 3) rfl)) (by decide) (by decide)) (g := (mkF m 326 #[.val (.int i0), .val (.long j1), .second, .val (.int i3), .val (.int i4), .val (.ref b31), .val (.ref b60), .val (.int ti), .val (.int pi), .val (.ref b378), .val (.int 0), .val (.ref b60), .val (.ref b31), .val (.int 12), .unset] [(.ref b31), (.int 14), (.ref b378)])) rfl (by rw [hml]; rfl) (argsL := [(.ref b378), (.int 14), (.ref b31)]) (rest := []) (lenOf pd_1 rfl) rfl (by show 2 * 0 + _ ≤ _; exact Nat.le_of_eq rfl) (hb hby at_326) (fun vmx hWx => ⟨rfl, e505, (by decide : 3 + 0 ≤ _), (by decide : 44 + 0 ≤ _)⟩)
        dsimp only [Pt.U, Pt.locs, Pt.cells, Pt.slots] at X510 l510 y510 z510 st510 hQ510
        subst l510 y510 z510
        obtain ⟨rv510, Nq510, Kq510, u510_0⟩ := hQ510
        subst rv510
        have N510 := Fr.app N505 Nq510
        have K511 := K506.trans Kq510 (allS (Or.inr sz_b378) all0)
        have O511 := O506.keep Kq510 (allS g_b378 all0)
        -- pc 337: OwnerFilterWrittenInPinLaw.gap
        obtain ⟨_, _, ⟨T512, L512, k512, n512⟩, -, X512, ⟨Lc512, hQ512, l512, y512, z512⟩, st512⟩ := Jvm.LawKit.callS X510 hx (y := (⟨"com/example/ulinzi/ulinzi/model/OwnerFilterWrittenInPinLaw", "gap", "(JI)C"⟩ : MethodName)) hown (mvT hZ (hw _ (mg (i := 1) rfl))) (mvT hZ (hw _ (mg (i := 2) rfl))) (mvT hZ (hw _ (mg (i := 3) rfl))) (mvT hZ (hw _ (mg (i := 4) rfl))) (by decide) (backOf (W := 2) (rm1 l Z av0 hw [] j1 (4 : Int32) T510.heap n0 (own_le O511) ) hZ (hw _ (mg (i := 4) rfl)) (hw _ (mg (i := 3) rfl)) (by decide) (by decide)) (g := (mkF m 337 #[.val (.int i0), .val (.long j1), .second, .val (.int i3), .val (.int i4), .val (.ref b31), .val (.ref b60), .val (.int ti), .val (.int pi), .val (.ref b378), .val (.int 0), .val (.ref b60), .val (.ref b31), .val (.int 23), .unset] [(.int 4), (.long j1), (.int 23), (.ref b378)])) rfl (by rw [hml]; rfl) (argsL := [(.long j1), (.int 4)]) (rest := [(.int 23), (.ref b378)]) (lenOf pd_0 rfl) rfl (by show 2 * 0 + _ ≤ _; exact Nat.le_of_eq rfl) (hb hby at_337) (fun vmx hWx => ⟨rfl, rfl, (by decide : 3 + 0 ≤ _), (by decide : 44 + 0 ≤ _)⟩)
        dsimp only [Pt.U, Pt.locs, Pt.cells, Pt.slots] at X512 l512 y512 z512 st512 hQ512
        subst l512 y512 z512
        obtain ⟨rv512, Nq512, Kq512⟩ := hQ512
        subst rv512
        have N512 := Fr.app N510 Nq512
        obtain ⟨cl513, Ar513, qk513, qs513, qn513, qh513, qg513⟩ := id u510_0
        have hin513 : ¬ ((23 : Int32) < 0 ∨ cl513.slots.size ≤ ((23 : Int32)).toNatClampNeg) := inb_of qs513 ⟨by decide, by decide⟩
        obtain ⟨T514, h514, X514, e514, W514, st514⟩ := stC X512 hx hZ Kq512 Ar513 (j := (23 : Int32)) hin513 (g := (mkF m 340 #[.val (.int i0), .val (.long j1), .second, .val (.int i3), .val (.int i4), .val (.ref b31), .val (.ref b60), .val (.int ti), .val (.int pi), .val (.ref b378), .val (.int 0), .val (.ref b60), .val (.ref b31), .val (.int 23), .unset] [(.int (gapv j1 (4 : Int32))), (.int 23), (.ref b378)])) rfl rfl (hb hby at_340)
        have V514 : Arv Z h514 b378 k378 .char (25 : Int32) [(.int (gapv j1 (0 : Int32))), (.int (gapv j1 (1 : Int32))), (.int y0), (.int y1), (.int y2), (.int y3), (.int y4), (.int y5), (.int y6), (.int y7), (.int y8), (.int y9), (.int (gapv j1 (2 : Int32))), (.int (gapv j1 (3 : Int32))), (.int x0), (.int x1), (.int x2), (.int x3), (.int x4), (.int x5), (.int x6), (.int x7), (.int x8), (.int ((gapv j1 (4 : Int32)).toUInt32.toUInt16.toUInt32.toInt32)), (.int 0)] (.int 0) := Arv.set Ar513 qk513 qs513 qn513 qh513 qg513 (fits_nar_char _) W514 23 rfl (Nat.le_of_ble_eq_true rfl)
        rw [own_chn (own_gapch _ _)] at V514
        have N514 := Fr.snoc X514 N512 g_b378
        have K515 := K511.wr W514 (Or.inr sz_b378)
        have O515 := O511.wr W514 g_b378
        -- pc 349: OwnerFilterWrittenInPinLaw.gap
        obtain ⟨_, _, ⟨T516, L516, k516, n516⟩, -, X516, ⟨Lc516, hQ516, l516, y516, z516⟩, st516⟩ := Jvm.LawKit.callS X514 hx (y := (⟨"com/example/ulinzi/ulinzi/model/OwnerFilterWrittenInPinLaw", "gap", "(JI)C"⟩ : MethodName)) hown (mvT hZ (hw _ (mg (i := 1) rfl))) (mvT hZ (hw _ (mg (i := 2) rfl))) (mvT hZ (hw _ (mg (i := 3) rfl))) (mvT hZ (hw _ (mg (i := 4) rfl))) (by decide) (backOf (W := 2) (rm1 l Z av0 hw [] j1 (5 : Int32) h514 n0 (own_le O515) ) hZ (hw _ (mg (i := 4) rfl)) (hw _ (mg (i := 3) rfl)) (by decide) (by decide)) (g := (mkF m 349 #[.val (.int i0), .val (.long j1), .second, .val (.int i3), .val (.int i4), .val (.ref b31), .val (.ref b60), .val (.int ti), .val (.int pi), .val (.ref b378), .val (.int 0), .val (.ref b60), .val (.ref b31), .val (.int 23), .unset] [(.int 5), (.long j1), (.int 24), (.ref b378)])) rfl (by rw [hml]; rfl) (argsL := [(.long j1), (.int 5)]) (rest := [(.int 24), (.ref b378)]) (lenOf pd_0 rfl) rfl (by show 2 * 0 + _ ≤ _; exact Nat.le_of_eq rfl) (hb hby at_349) (fun vmx hWx => ⟨rfl, e514, (by decide : 3 + 0 ≤ _), (by decide : 44 + 0 ≤ _)⟩)
        dsimp only [Pt.U, Pt.locs, Pt.cells, Pt.slots] at X516 l516 y516 z516 st516 hQ516
        subst l516 y516 z516
        obtain ⟨rv516, Nq516, Kq516⟩ := hQ516
        subst rv516
        have N516 := Fr.app N514 Nq516
        obtain ⟨cl517, Ar517, qk517, qs517, qn517, qh517, qg517⟩ := id V514
        have hin517 : ¬ ((24 : Int32) < 0 ∨ cl517.slots.size ≤ ((24 : Int32)).toNatClampNeg) := inb_of qs517 ⟨by decide, by decide⟩
        obtain ⟨T518, h518, X518, e518, W518, st518⟩ := stC X516 hx hZ Kq516 Ar517 (j := (24 : Int32)) hin517 (g := (mkF m 352 #[.val (.int i0), .val (.long j1), .second, .val (.int i3), .val (.int i4), .val (.ref b31), .val (.ref b60), .val (.int ti), .val (.int pi), .val (.ref b378), .val (.int 0), .val (.ref b60), .val (.ref b31), .val (.int 23), .unset] [(.int (gapv j1 (5 : Int32))), (.int 24), (.ref b378)])) rfl rfl (hb hby at_352)
        have V518 : Arv Z h518 b378 k378 .char (25 : Int32) [(.int (gapv j1 (0 : Int32))), (.int (gapv j1 (1 : Int32))), (.int y0), (.int y1), (.int y2), (.int y3), (.int y4), (.int y5), (.int y6), (.int y7), (.int y8), (.int y9), (.int (gapv j1 (2 : Int32))), (.int (gapv j1 (3 : Int32))), (.int x0), (.int x1), (.int x2), (.int x3), (.int x4), (.int x5), (.int x6), (.int x7), (.int x8), (.int (gapv j1 (4 : Int32))), (.int ((gapv j1 (5 : Int32)).toUInt32.toUInt16.toUInt32.toInt32))] (.int 0) := Arv.set Ar517 qk517 qs517 qn517 qh517 qg517 (fits_nar_char _) W518 24 rfl (Nat.le_of_ble_eq_true rfl)
        rw [own_chn (own_gapch _ _)] at V518
        have N518 := Fr.snoc X518 N516 g_b378
        have K519 := K515.wr W518 (Or.inr sz_b378)
        have O519 := O515.wr W518 g_b378
        have pre520 : ∀ tz_, Steps p.tables e below (T518.setTop (mkF m 356 #[.val (.int i0), .val (.long j1), .second, .val (.int i3), .val (.int i4), .val (.ref b31), .val (.ref b60), .val (.int ti), .val (.int pi), .val (.ref b378), .val (.int 0), .val (.ref b60), .val (.ref b31), .val (.int 23), .val .null] [])) tz_ → Steps p.tables e below (s₁.setTop (entryFrame m #[(.int i0), (.long j1), (.int i3), (.int i4)] maxLocals)) tz_ := fun tz_ kk => pre380 tz_ (by
          show Steps p.tables e below (T378.setTop (mkF m 230 #[.val (.int i0), .val (.long j1), .second, .val (.int i3), .val (.int i4), .val (.ref b31), .val (.ref b60), .val (.int ti), .val (.int pi), .val (.ref b378), pb, .unset, .unset, .unset, .unset] [(.int (i0 &&& (1 : Int32)))])) _
          refine XS.ifYes X378.here hx rfl (pc0 := 230) (pc' := 237) rfl (hb hby at_230) rfl ((if0 _ _).trans (feq hc381).2) (by decide) (by decide) ?_
          show Steps p.tables e below (T378.setTop (mkF m 237 #[.val (.int i0), .val (.long j1), .second, .val (.int i3), .val (.int i4), .val (.ref b31), .val (.ref b60), .val (.int ti), .val (.int pi), .val (.ref b378), pb, .unset, .unset, .unset, .unset] [])) _
          refine XS.iconst X378.here hx rfl (hb hby at_237) ?_
          refine XS.istoreS X378.here hx rfl (hb hby at_238) rfl rfl hopb ?_
          refine XS.iload X378.here hx rfl (hb hby at_240) rfl ?_
          show Steps p.tables e below (T378.setTop (mkF m 242 #[.val (.int i0), .val (.long j1), .second, .val (.int i3), .val (.int i4), .val (.ref b31), .val (.ref b60), .val (.int ti), .val (.int pi), .val (.ref b378), .val (.int 0), .unset, .unset, .unset, .unset] [(.int 0)])) _
          refine XS.ifYes X378.here hx rfl (pc0 := 242) (pc' := 250) rfl (hb hby at_242) rfl ((if0 _ _).trans (teq (by decide : (0 : Int32) = (0 : Int32))).1) (by decide) (by decide) ?_
          show Steps p.tables e below (T378.setTop (mkF m 250 #[.val (.int i0), .val (.long j1), .second, .val (.int i3), .val (.int i4), .val (.ref b31), .val (.ref b60), .val (.int ti), .val (.int pi), .val (.ref b378), .val (.int 0), .unset, .unset, .unset, .unset] [])) _
          refine XS.aload X378.here hx rfl (hb hby at_250) rfl rfl ?_
          refine XS.astore X378.here hx rfl (hb hby at_252) rfl rfl (l' := #[.val (.int i0), .val (.long j1), .second, .val (.int i3), .val (.int i4), .val (.ref b31), .val (.ref b60), .val (.int ti), .val (.int pi), .val (.ref b378), .val (.int 0), .val (.ref b60), .unset, .unset, .unset]) rfl ?_
          refine XS.iload X378.here hx rfl (hb hby at_254) rfl ?_
          show Steps p.tables e below (T378.setTop (mkF m 256 #[.val (.int i0), .val (.long j1), .second, .val (.int i3), .val (.int i4), .val (.ref b31), .val (.ref b60), .val (.int ti), .val (.int pi), .val (.ref b378), .val (.int 0), .val (.ref b60), .unset, .unset, .unset] [(.int 0)])) _
          refine XS.ifYes X378.here hx rfl (pc0 := 256) (pc' := 264) rfl (hb hby at_256) rfl ((if0 _ _).trans (teq (by decide : (0 : Int32) = (0 : Int32))).1) (by decide) (by decide) ?_
          show Steps p.tables e below (T378.setTop (mkF m 264 #[.val (.int i0), .val (.long j1), .second, .val (.int i3), .val (.int i4), .val (.ref b31), .val (.ref b60), .val (.int ti), .val (.int pi), .val (.ref b378), .val (.int 0), .val (.ref b60), .unset, .unset, .unset] [])) _
          refine XS.aload X378.here hx rfl (hb hby at_264) rfl rfl ?_
          refine XS.astore X378.here hx rfl (hb hby at_266) rfl rfl (l' := #[.val (.int i0), .val (.long j1), .second, .val (.int i3), .val (.int i4), .val (.ref b31), .val (.ref b60), .val (.int ti), .val (.int pi), .val (.ref b378), .val (.int 0), .val (.ref b60), .val (.ref b31), .unset, .unset]) rfl ?_
          refine XS.aload X378.here hx rfl (hb hby at_268) rfl rfl ?_
          refine XS.iconst X378.here hx rfl (hb hby at_270) ?_
          show Steps p.tables e below (T378.setTop (mkF m 271 #[.val (.int i0), .val (.long j1), .second, .val (.int i3), .val (.int i4), .val (.ref b31), .val (.ref b60), .val (.int ti), .val (.int pi), .val (.ref b378), .val (.int 0), .val (.ref b60), .val (.ref b31), .unset, .unset] [(.int 0), (.ref b378)])) _
          refine XS.lloadN X378.here hx rfl (hb hby at_271) rfl ?_
          refine XS.iconst X378.here hx rfl (hb hby at_272) ?_
          show Steps p.tables e below (T378.setTop (mkF m 273 #[.val (.int i0), .val (.long j1), .second, .val (.int i3), .val (.int i4), .val (.ref b31), .val (.ref b60), .val (.int ti), .val (.int pi), .val (.ref b378), .val (.int 0), .val (.ref b60), .val (.ref b31), .unset, .unset] [(.int 0), (.long j1), (.int 0), (.ref b378)])) _
          refine st487 _ ?_
          show Steps p.tables e below (T487.setTop (mkF m 276 #[.val (.int i0), .val (.long j1), .second, .val (.int i3), .val (.int i4), .val (.ref b31), .val (.ref b60), .val (.int ti), .val (.int pi), .val (.ref b378), .val (.int 0), .val (.ref b60), .val (.ref b31), .unset, .unset] [(.int (gapv j1 (0 : Int32))), (.int 0), (.ref b378)])) _
          refine st489 _ ?_
          show Steps p.tables e below (T489.setTop (mkF m 277 #[.val (.int i0), .val (.long j1), .second, .val (.int i3), .val (.int i4), .val (.ref b31), .val (.ref b60), .val (.int ti), .val (.int pi), .val (.ref b378), .val (.int 0), .val (.ref b60), .val (.ref b31), .unset, .unset] [])) _
          refine XS.aload X489.here hx rfl (hb hby at_277) rfl rfl ?_
          refine XS.iconst X489.here hx rfl (hb hby at_279) ?_
          refine XS.lloadN X489.here hx rfl (hb hby at_280) rfl ?_
          refine XS.iconst X489.here hx rfl (hb hby at_281) ?_
          show Steps p.tables e below (T489.setTop (mkF m 282 #[.val (.int i0), .val (.long j1), .second, .val (.int i3), .val (.int i4), .val (.ref b31), .val (.ref b60), .val (.int ti), .val (.int pi), .val (.ref b378), .val (.int 0), .val (.ref b60), .val (.ref b31), .unset, .unset] [(.int 1), (.long j1), (.int 1), (.ref b378)])) _
          refine st491 _ ?_
          show Steps p.tables e below (T491.setTop (mkF m 285 #[.val (.int i0), .val (.long j1), .second, .val (.int i3), .val (.int i4), .val (.ref b31), .val (.ref b60), .val (.int ti), .val (.int pi), .val (.ref b378), .val (.int 0), .val (.ref b60), .val (.ref b31), .unset, .unset] [(.int (gapv j1 (1 : Int32))), (.int 1), (.ref b378)])) _
          refine st493 _ ?_
          refine XS.aload X493.here hx rfl (hb hby at_286) rfl rfl ?_
          refine XS.iconst X493.here hx rfl (hb hby at_288) ?_
          show Steps p.tables e below (T493.setTop (mkF m 289 #[.val (.int i0), .val (.long j1), .second, .val (.int i3), .val (.int i4), .val (.ref b31), .val (.ref b60), .val (.int ti), .val (.int pi), .val (.ref b378), .val (.int 0), .val (.ref b60), .val (.ref b31), .unset, .unset] [(.int 2), (.ref b378)])) _
          refine XS.aload X493.here hx rfl (hb hby at_289) rfl rfl ?_
          show Steps p.tables e below (T493.setTop (mkF m 291 #[.val (.int i0), .val (.long j1), .second, .val (.int i3), .val (.int i4), .val (.ref b31), .val (.ref b60), .val (.int ti), .val (.int pi), .val (.ref b378), .val (.int 0), .val (.ref b60), .val (.ref b31), .unset, .unset] [(.ref b60), (.int 2), (.ref b378)])) _
          refine st497 _ ?_
          refine XS.istore X497.here hx rfl (hb hby at_294) rfl (l' := #[.val (.int i0), .val (.long j1), .second, .val (.int i3), .val (.int i4), .val (.ref b31), .val (.ref b60), .val (.int ti), .val (.int pi), .val (.ref b378), .val (.int 0), .val (.ref b60), .val (.ref b31), .val (.int 12), .unset]) rfl ?_
          refine XS.aload X497.here hx rfl (hb hby at_296) rfl rfl ?_
          show Steps p.tables e below (T497.setTop (mkF m 298 #[.val (.int i0), .val (.long j1), .second, .val (.int i3), .val (.int i4), .val (.ref b31), .val (.ref b60), .val (.int ti), .val (.int pi), .val (.ref b378), .val (.int 0), .val (.ref b60), .val (.ref b31), .val (.int 12), .unset] [(.ref b378)])) _
          refine XS.iload X497.here hx rfl (hb hby at_298) rfl ?_
          refine XS.lloadN X497.here hx rfl (hb hby at_300) rfl ?_
          refine XS.iconst X497.here hx rfl (hb hby at_301) ?_
          show Steps p.tables e below (T497.setTop (mkF m 302 #[.val (.int i0), .val (.long j1), .second, .val (.int i3), .val (.int i4), .val (.ref b31), .val (.ref b60), .val (.int ti), .val (.int pi), .val (.ref b378), .val (.int 0), .val (.ref b60), .val (.ref b31), .val (.int 12), .unset] [(.int 2), (.long j1), (.int 12), (.ref b378)])) _
          refine st499 _ ?_
          show Steps p.tables e below (T499.setTop (mkF m 305 #[.val (.int i0), .val (.long j1), .second, .val (.int i3), .val (.int i4), .val (.ref b31), .val (.ref b60), .val (.int ti), .val (.int pi), .val (.ref b378), .val (.int 0), .val (.ref b60), .val (.ref b31), .val (.int 12), .unset] [(.int (gapv j1 (2 : Int32))), (.int 12), (.ref b378)])) _
          refine st501 _ ?_
          refine XS.aload X501.here hx rfl (hb hby at_306) rfl rfl ?_
          refine XS.iload X501.here hx rfl (hb hby at_308) rfl ?_
          refine XS.iconst X501.here hx rfl (hb hby at_310) ?_
          show Steps p.tables e below (T501.setTop (mkF m 311 #[.val (.int i0), .val (.long j1), .second, .val (.int i3), .val (.int i4), .val (.ref b31), .val (.ref b60), .val (.int ti), .val (.int pi), .val (.ref b378), .val (.int 0), .val (.ref b60), .val (.ref b31), .val (.int 12), .unset] [(.int 1), (.int 12), (.ref b378)])) _
          refine XS.iadd X501.here hx rfl (hb hby at_311) rfl ?_
          show Steps p.tables e below (T501.setTop (mkF m 312 #[.val (.int i0), .val (.long j1), .second, .val (.int i3), .val (.int i4), .val (.ref b31), .val (.ref b60), .val (.int ti), .val (.int pi), .val (.ref b378), .val (.int 0), .val (.ref b60), .val (.ref b31), .val (.int 12), .unset] [(.int ((12 : Int32) + (1 : Int32))), (.ref b378)])) _
          rw [show ((12 : Int32) + (1 : Int32)) = (13 : Int32) from by decide]
          refine XS.lloadN X501.here hx rfl (hb hby at_312) rfl ?_
          refine XS.iconst X501.here hx rfl (hb hby at_313) ?_
          show Steps p.tables e below (T501.setTop (mkF m 314 #[.val (.int i0), .val (.long j1), .second, .val (.int i3), .val (.int i4), .val (.ref b31), .val (.ref b60), .val (.int ti), .val (.int pi), .val (.ref b378), .val (.int 0), .val (.ref b60), .val (.ref b31), .val (.int 12), .unset] [(.int 3), (.long j1), (.int 13), (.ref b378)])) _
          refine st503 _ ?_
          show Steps p.tables e below (T503.setTop (mkF m 317 #[.val (.int i0), .val (.long j1), .second, .val (.int i3), .val (.int i4), .val (.ref b31), .val (.ref b60), .val (.int ti), .val (.int pi), .val (.ref b378), .val (.int 0), .val (.ref b60), .val (.ref b31), .val (.int 12), .unset] [(.int (gapv j1 (3 : Int32))), (.int 13), (.ref b378)])) _
          refine st505 _ ?_
          refine XS.aload X505.here hx rfl (hb hby at_318) rfl rfl ?_
          refine XS.iload X505.here hx rfl (hb hby at_320) rfl ?_
          refine XS.iconst X505.here hx rfl (hb hby at_322) ?_
          show Steps p.tables e below (T505.setTop (mkF m 323 #[.val (.int i0), .val (.long j1), .second, .val (.int i3), .val (.int i4), .val (.ref b31), .val (.ref b60), .val (.int ti), .val (.int pi), .val (.ref b378), .val (.int 0), .val (.ref b60), .val (.ref b31), .val (.int 12), .unset] [(.int 2), (.int 12), (.ref b378)])) _
          refine XS.iadd X505.here hx rfl (hb hby at_323) rfl ?_
          show Steps p.tables e below (T505.setTop (mkF m 324 #[.val (.int i0), .val (.long j1), .second, .val (.int i3), .val (.int i4), .val (.ref b31), .val (.ref b60), .val (.int ti), .val (.int pi), .val (.ref b378), .val (.int 0), .val (.ref b60), .val (.ref b31), .val (.int 12), .unset] [(.int ((12 : Int32) + (2 : Int32))), (.ref b378)])) _
          rw [show ((12 : Int32) + (2 : Int32)) = (14 : Int32) from by decide]
          refine XS.aload X505.here hx rfl (hb hby at_324) rfl rfl ?_
          show Steps p.tables e below (T505.setTop (mkF m 326 #[.val (.int i0), .val (.long j1), .second, .val (.int i3), .val (.int i4), .val (.ref b31), .val (.ref b60), .val (.int ti), .val (.int pi), .val (.ref b378), .val (.int 0), .val (.ref b60), .val (.ref b31), .val (.int 12), .unset] [(.ref b31), (.int 14), (.ref b378)])) _
          refine st510 _ ?_
          refine XS.istore X510.here hx rfl (hb hby at_329) rfl (l' := #[.val (.int i0), .val (.long j1), .second, .val (.int i3), .val (.int i4), .val (.ref b31), .val (.ref b60), .val (.int ti), .val (.int pi), .val (.ref b378), .val (.int 0), .val (.ref b60), .val (.ref b31), .val (.int 23), .unset]) rfl ?_
          show Steps p.tables e below (T510.setTop (mkF m 331 #[.val (.int i0), .val (.long j1), .second, .val (.int i3), .val (.int i4), .val (.ref b31), .val (.ref b60), .val (.int ti), .val (.int pi), .val (.ref b378), .val (.int 0), .val (.ref b60), .val (.ref b31), .val (.int 23), .unset] [])) _
          refine XS.aload X510.here hx rfl (hb hby at_331) rfl rfl ?_
          refine XS.iload X510.here hx rfl (hb hby at_333) rfl ?_
          refine XS.lloadN X510.here hx rfl (hb hby at_335) rfl ?_
          refine XS.iconst X510.here hx rfl (hb hby at_336) ?_
          show Steps p.tables e below (T510.setTop (mkF m 337 #[.val (.int i0), .val (.long j1), .second, .val (.int i3), .val (.int i4), .val (.ref b31), .val (.ref b60), .val (.int ti), .val (.int pi), .val (.ref b378), .val (.int 0), .val (.ref b60), .val (.ref b31), .val (.int 23), .unset] [(.int 4), (.long j1), (.int 23), (.ref b378)])) _
          refine st512 _ ?_
          show Steps p.tables e below (T512.setTop (mkF m 340 #[.val (.int i0), .val (.long j1), .second, .val (.int i3), .val (.int i4), .val (.ref b31), .val (.ref b60), .val (.int ti), .val (.int pi), .val (.ref b378), .val (.int 0), .val (.ref b60), .val (.ref b31), .val (.int 23), .unset] [(.int (gapv j1 (4 : Int32))), (.int 23), (.ref b378)])) _
          refine st514 _ ?_
          refine XS.aload X514.here hx rfl (hb hby at_341) rfl rfl ?_
          refine XS.iload X514.here hx rfl (hb hby at_343) rfl ?_
          show Steps p.tables e below (T514.setTop (mkF m 345 #[.val (.int i0), .val (.long j1), .second, .val (.int i3), .val (.int i4), .val (.ref b31), .val (.ref b60), .val (.int ti), .val (.int pi), .val (.ref b378), .val (.int 0), .val (.ref b60), .val (.ref b31), .val (.int 23), .unset] [(.int 23), (.ref b378)])) _
          refine XS.iconst X514.here hx rfl (hb hby at_345) ?_
          show Steps p.tables e below (T514.setTop (mkF m 346 #[.val (.int i0), .val (.long j1), .second, .val (.int i3), .val (.int i4), .val (.ref b31), .val (.ref b60), .val (.int ti), .val (.int pi), .val (.ref b378), .val (.int 0), .val (.ref b60), .val (.ref b31), .val (.int 23), .unset] [(.int 1), (.int 23), (.ref b378)])) _
          refine XS.iadd X514.here hx rfl (hb hby at_346) rfl ?_
          show Steps p.tables e below (T514.setTop (mkF m 347 #[.val (.int i0), .val (.long j1), .second, .val (.int i3), .val (.int i4), .val (.ref b31), .val (.ref b60), .val (.int ti), .val (.int pi), .val (.ref b378), .val (.int 0), .val (.ref b60), .val (.ref b31), .val (.int 23), .unset] [(.int ((23 : Int32) + (1 : Int32))), (.ref b378)])) _
          rw [show ((23 : Int32) + (1 : Int32)) = (24 : Int32) from by decide]
          refine XS.lloadN X514.here hx rfl (hb hby at_347) rfl ?_
          refine XS.iconst X514.here hx rfl (hb hby at_348) ?_
          show Steps p.tables e below (T514.setTop (mkF m 349 #[.val (.int i0), .val (.long j1), .second, .val (.int i3), .val (.int i4), .val (.ref b31), .val (.ref b60), .val (.int ti), .val (.int pi), .val (.ref b378), .val (.int 0), .val (.ref b60), .val (.ref b31), .val (.int 23), .unset] [(.int 5), (.long j1), (.int 24), (.ref b378)])) _
          refine st516 _ ?_
          show Steps p.tables e below (T516.setTop (mkF m 352 #[.val (.int i0), .val (.long j1), .second, .val (.int i3), .val (.int i4), .val (.ref b31), .val (.ref b60), .val (.int ti), .val (.int pi), .val (.ref b378), .val (.int 0), .val (.ref b60), .val (.ref b31), .val (.int 23), .unset] [(.int (gapv j1 (5 : Int32))), (.int 24), (.ref b378)])) _
          refine st518 _ ?_
          refine XS.aconstNull X518.here hx rfl (hb hby at_353) ?_
          refine XS.astore X518.here hx rfl (hb hby at_354) rfl rfl (l' := #[.val (.int i0), .val (.long j1), .second, .val (.int i3), .val (.int i4), .val (.ref b31), .val (.ref b60), .val (.int ti), .val (.int pi), .val (.ref b378), .val (.int 0), .val (.ref b60), .val (.ref b31), .val (.int 23), .val .null]) rfl ?_
          exact kk)
        have f521 := ((((((((((((((((((((((((((((((((p5_E.ext E31).wr W34).wr W37).wr W40).wr W43).wr W46).wr W49).wr W52).wr W55).wr W58).ext E60).wr W63).wr W66).wr W69).wr W72).wr W75).wr W78).wr W81).wr W84).wr W87).wr W90).keep Kj93).keep Kj229).ext E378).wr W489).wr W493).keep Kq497).wr W501).wr W505).keep Kq510).wr W514).wr W518)
        have ne522 : wt ≠ b31 := (Nat.ne_of_lt (Nat.lt_of_lt_of_le p5_E.lt (Nat.le_of_eq q31.symm)))
        have ne523 : wt ≠ b60 := (Nat.ne_of_lt (Nat.lt_of_lt_of_le (Nat.lt_of_lt_of_le p5_E.lt (Nat.le_trans (Nat.le_trans (Nat.le_trans (Nat.le_trans (Nat.le_trans (Nat.le_trans (Nat.le_trans (Nat.le_trans (Nat.le_trans E31.1 (Nat.le_of_eq W34.size.symm)) (Nat.le_of_eq W37.size.symm)) (Nat.le_of_eq W40.size.symm)) (Nat.le_of_eq W43.size.symm)) (Nat.le_of_eq W46.size.symm)) (Nat.le_of_eq W49.size.symm)) (Nat.le_of_eq W52.size.symm)) (Nat.le_of_eq W55.size.symm)) (Nat.le_of_eq W58.size.symm))) (Nat.le_of_eq q60.symm)))
        have ne524 : wt ≠ b378 := (Nat.ne_of_lt (Nat.lt_of_lt_of_le (Nat.lt_of_lt_of_le p5_E.lt (Nat.le_trans (Nat.le_trans (Nat.le_trans (Nat.le_trans (Nat.le_trans (Nat.le_trans (Nat.le_trans (Nat.le_trans (Nat.le_trans (Nat.le_trans (Nat.le_trans (Nat.le_trans (Nat.le_trans (Nat.le_trans (Nat.le_trans (Nat.le_trans (Nat.le_trans (Nat.le_trans (Nat.le_trans (Nat.le_trans (Nat.le_trans (Nat.le_trans E31.1 (Nat.le_of_eq W34.size.symm)) (Nat.le_of_eq W37.size.symm)) (Nat.le_of_eq W40.size.symm)) (Nat.le_of_eq W43.size.symm)) (Nat.le_of_eq W46.size.symm)) (Nat.le_of_eq W49.size.symm)) (Nat.le_of_eq W52.size.symm)) (Nat.le_of_eq W55.size.symm)) (Nat.le_of_eq W58.size.symm)) E60.1) (Nat.le_of_eq W63.size.symm)) (Nat.le_of_eq W66.size.symm)) (Nat.le_of_eq W69.size.symm)) (Nat.le_of_eq W72.size.symm)) (Nat.le_of_eq W75.size.symm)) (Nat.le_of_eq W78.size.symm)) (Nat.le_of_eq W81.size.symm)) (Nat.le_of_eq W84.size.symm)) (Nat.le_of_eq W87.size.symm)) (Nat.le_of_eq W90.size.symm)) Kj93.1) Kj229.1)) (Nat.le_of_eq q378.symm)))
        have f525 := ((((((((((((((((((((((((((((((((p6_F.ext E31).other W34 (Or.inl ne522)).other W37 (Or.inl ne522)).other W40 (Or.inl ne522)).other W43 (Or.inl ne522)).other W46 (Or.inl ne522)).other W49 (Or.inl ne522)).other W52 (Or.inl ne522)).other W55 (Or.inl ne522)).other W58 (Or.inl ne522)).ext E60).other W63 (Or.inl ne523)).other W66 (Or.inl ne523)).other W69 (Or.inl ne523)).other W72 (Or.inl ne523)).other W75 (Or.inl ne523)).other W78 (Or.inl ne523)).other W81 (Or.inl ne523)).other W84 (Or.inl ne523)).other W87 (Or.inl ne523)).other W90 (Or.inl ne523)).keep Kj93 (ninS ne522 nin0)).keep Kj229 (ninS ne523 nin0)).ext E378).other W489 (Or.inl ne524)).other W493 (Or.inl ne524)).keep Kq497 (ninS ne524 nin0)).other W501 (Or.inl ne524)).other W505 (Or.inl ne524)).keep Kq510 (ninS ne524 nin0)).other W514 (Or.inl ne524)).other W518 (Or.inl ne524))
        have f526 := ((((((((((((((((((((((((((((((((p7_E.ext E31).wr W34).wr W37).wr W40).wr W43).wr W46).wr W49).wr W52).wr W55).wr W58).ext E60).wr W63).wr W66).wr W69).wr W72).wr W75).wr W78).wr W81).wr W84).wr W87).wr W90).keep Kj93).keep Kj229).ext E378).wr W489).wr W493).keep Kq497).wr W501).wr W505).keep Kq510).wr W514).wr W518)
        have ne527 : tt ≠ b31 := (Nat.ne_of_lt (Nat.lt_of_lt_of_le p7_E.lt (Nat.le_of_eq q31.symm)))
        have ne528 : tt ≠ b60 := (Nat.ne_of_lt (Nat.lt_of_lt_of_le (Nat.lt_of_lt_of_le p7_E.lt (Nat.le_trans (Nat.le_trans (Nat.le_trans (Nat.le_trans (Nat.le_trans (Nat.le_trans (Nat.le_trans (Nat.le_trans (Nat.le_trans E31.1 (Nat.le_of_eq W34.size.symm)) (Nat.le_of_eq W37.size.symm)) (Nat.le_of_eq W40.size.symm)) (Nat.le_of_eq W43.size.symm)) (Nat.le_of_eq W46.size.symm)) (Nat.le_of_eq W49.size.symm)) (Nat.le_of_eq W52.size.symm)) (Nat.le_of_eq W55.size.symm)) (Nat.le_of_eq W58.size.symm))) (Nat.le_of_eq q60.symm)))
        have ne529 : tt ≠ b378 := (Nat.ne_of_lt (Nat.lt_of_lt_of_le (Nat.lt_of_lt_of_le p7_E.lt (Nat.le_trans (Nat.le_trans (Nat.le_trans (Nat.le_trans (Nat.le_trans (Nat.le_trans (Nat.le_trans (Nat.le_trans (Nat.le_trans (Nat.le_trans (Nat.le_trans (Nat.le_trans (Nat.le_trans (Nat.le_trans (Nat.le_trans (Nat.le_trans (Nat.le_trans (Nat.le_trans (Nat.le_trans (Nat.le_trans (Nat.le_trans (Nat.le_trans E31.1 (Nat.le_of_eq W34.size.symm)) (Nat.le_of_eq W37.size.symm)) (Nat.le_of_eq W40.size.symm)) (Nat.le_of_eq W43.size.symm)) (Nat.le_of_eq W46.size.symm)) (Nat.le_of_eq W49.size.symm)) (Nat.le_of_eq W52.size.symm)) (Nat.le_of_eq W55.size.symm)) (Nat.le_of_eq W58.size.symm)) E60.1) (Nat.le_of_eq W63.size.symm)) (Nat.le_of_eq W66.size.symm)) (Nat.le_of_eq W69.size.symm)) (Nat.le_of_eq W72.size.symm)) (Nat.le_of_eq W75.size.symm)) (Nat.le_of_eq W78.size.symm)) (Nat.le_of_eq W81.size.symm)) (Nat.le_of_eq W84.size.symm)) (Nat.le_of_eq W87.size.symm)) (Nat.le_of_eq W90.size.symm)) Kj93.1) Kj229.1)) (Nat.le_of_eq q378.symm)))
        have f530 := ((((((((((((((((((((((((((((((((p8_F.ext E31).other W34 (Or.inl ne527)).other W37 (Or.inl ne527)).other W40 (Or.inl ne527)).other W43 (Or.inl ne527)).other W46 (Or.inl ne527)).other W49 (Or.inl ne527)).other W52 (Or.inl ne527)).other W55 (Or.inl ne527)).other W58 (Or.inl ne527)).ext E60).other W63 (Or.inl ne528)).other W66 (Or.inl ne528)).other W69 (Or.inl ne528)).other W72 (Or.inl ne528)).other W75 (Or.inl ne528)).other W78 (Or.inl ne528)).other W81 (Or.inl ne528)).other W84 (Or.inl ne528)).other W87 (Or.inl ne528)).other W90 (Or.inl ne528)).keep Kj93 (ninS ne527 nin0)).keep Kj229 (ninS ne528 nin0)).ext E378).other W489 (Or.inl ne529)).other W493 (Or.inl ne529)).keep Kq497 (ninS ne529 nin0)).other W501 (Or.inl ne529)).other W505 (Or.inl ne529)).keep Kq510 (ninS ne529 nin0)).other W514 (Or.inl ne529)).other W518 (Or.inl ne529))
        have f531 := ((((((((((((((((((((((((((((((((p9_F.ext E31).other W34 (Or.inl ne527)).other W37 (Or.inl ne527)).other W40 (Or.inl ne527)).other W43 (Or.inl ne527)).other W46 (Or.inl ne527)).other W49 (Or.inl ne527)).other W52 (Or.inl ne527)).other W55 (Or.inl ne527)).other W58 (Or.inl ne527)).ext E60).other W63 (Or.inl ne528)).other W66 (Or.inl ne528)).other W69 (Or.inl ne528)).other W72 (Or.inl ne528)).other W75 (Or.inl ne528)).other W78 (Or.inl ne528)).other W81 (Or.inl ne528)).other W84 (Or.inl ne528)).other W87 (Or.inl ne528)).other W90 (Or.inl ne528)).keep Kj93 (ninS ne527 nin0)).keep Kj229 (ninS ne528 nin0)).ext E378).other W489 (Or.inl ne529)).other W493 (Or.inl ne529)).keep Kq497 (ninS ne529 nin0)).other W501 (Or.inl ne529)).other W505 (Or.inl ne529)).keep Kq510 (ninS ne529 nin0)).other W514 (Or.inl ne529)).other W518 (Or.inl ne529))
        have ne532 : vbt ≠ b31 := (Nat.ne_of_lt (Nat.lt_of_lt_of_le p10_A.lt (Nat.le_of_eq q31.symm)))
        have ne533 : vbt ≠ b60 := (Nat.ne_of_lt (Nat.lt_of_lt_of_le (Nat.lt_of_lt_of_le p10_A.lt (Nat.le_trans (Nat.le_trans (Nat.le_trans (Nat.le_trans (Nat.le_trans (Nat.le_trans (Nat.le_trans (Nat.le_trans (Nat.le_trans E31.1 (Nat.le_of_eq W34.size.symm)) (Nat.le_of_eq W37.size.symm)) (Nat.le_of_eq W40.size.symm)) (Nat.le_of_eq W43.size.symm)) (Nat.le_of_eq W46.size.symm)) (Nat.le_of_eq W49.size.symm)) (Nat.le_of_eq W52.size.symm)) (Nat.le_of_eq W55.size.symm)) (Nat.le_of_eq W58.size.symm))) (Nat.le_of_eq q60.symm)))
        have ne534 : vbt ≠ b378 := (Nat.ne_of_lt (Nat.lt_of_lt_of_le (Nat.lt_of_lt_of_le p10_A.lt (Nat.le_trans (Nat.le_trans (Nat.le_trans (Nat.le_trans (Nat.le_trans (Nat.le_trans (Nat.le_trans (Nat.le_trans (Nat.le_trans (Nat.le_trans (Nat.le_trans (Nat.le_trans (Nat.le_trans (Nat.le_trans (Nat.le_trans (Nat.le_trans (Nat.le_trans (Nat.le_trans (Nat.le_trans (Nat.le_trans (Nat.le_trans (Nat.le_trans E31.1 (Nat.le_of_eq W34.size.symm)) (Nat.le_of_eq W37.size.symm)) (Nat.le_of_eq W40.size.symm)) (Nat.le_of_eq W43.size.symm)) (Nat.le_of_eq W46.size.symm)) (Nat.le_of_eq W49.size.symm)) (Nat.le_of_eq W52.size.symm)) (Nat.le_of_eq W55.size.symm)) (Nat.le_of_eq W58.size.symm)) E60.1) (Nat.le_of_eq W63.size.symm)) (Nat.le_of_eq W66.size.symm)) (Nat.le_of_eq W69.size.symm)) (Nat.le_of_eq W72.size.symm)) (Nat.le_of_eq W75.size.symm)) (Nat.le_of_eq W78.size.symm)) (Nat.le_of_eq W81.size.symm)) (Nat.le_of_eq W84.size.symm)) (Nat.le_of_eq W87.size.symm)) (Nat.le_of_eq W90.size.symm)) Kj93.1) Kj229.1)) (Nat.le_of_eq q378.symm)))
        have f535 := ((((((((((((((((((((((((((((((((p10_A.ext E31).other W34 ne532).other W37 ne532).other W40 ne532).other W43 ne532).other W46 ne532).other W49 ne532).other W52 ne532).other W55 ne532).other W58 ne532).ext E60).other W63 ne533).other W66 ne533).other W69 ne533).other W72 ne533).other W75 ne533).other W78 ne533).other W81 ne533).other W84 ne533).other W87 ne533).other W90 ne533).keep Kj93 (ninS ne532 nin0)).keep Kj229 (ninS ne533 nin0)).ext E378).other W489 ne534).other W493 ne534).keep Kq497 (ninS ne534 nin0)).other W501 ne534).other W505 ne534).keep Kq510 (ninS ne534 nin0)).other W514 ne534).other W518 ne534)
        have f536 := ((((((((((((((((((((((((((((((((p11_E.ext E31).wr W34).wr W37).wr W40).wr W43).wr W46).wr W49).wr W52).wr W55).wr W58).ext E60).wr W63).wr W66).wr W69).wr W72).wr W75).wr W78).wr W81).wr W84).wr W87).wr W90).keep Kj93).keep Kj229).ext E378).wr W489).wr W493).keep Kq497).wr W501).wr W505).keep Kq510).wr W514).wr W518)
        have ne537 : wp ≠ b31 := (Nat.ne_of_lt (Nat.lt_of_lt_of_le p11_E.lt (Nat.le_of_eq q31.symm)))
        have ne538 : wp ≠ b60 := (Nat.ne_of_lt (Nat.lt_of_lt_of_le (Nat.lt_of_lt_of_le p11_E.lt (Nat.le_trans (Nat.le_trans (Nat.le_trans (Nat.le_trans (Nat.le_trans (Nat.le_trans (Nat.le_trans (Nat.le_trans (Nat.le_trans E31.1 (Nat.le_of_eq W34.size.symm)) (Nat.le_of_eq W37.size.symm)) (Nat.le_of_eq W40.size.symm)) (Nat.le_of_eq W43.size.symm)) (Nat.le_of_eq W46.size.symm)) (Nat.le_of_eq W49.size.symm)) (Nat.le_of_eq W52.size.symm)) (Nat.le_of_eq W55.size.symm)) (Nat.le_of_eq W58.size.symm))) (Nat.le_of_eq q60.symm)))
        have ne539 : wp ≠ b378 := (Nat.ne_of_lt (Nat.lt_of_lt_of_le (Nat.lt_of_lt_of_le p11_E.lt (Nat.le_trans (Nat.le_trans (Nat.le_trans (Nat.le_trans (Nat.le_trans (Nat.le_trans (Nat.le_trans (Nat.le_trans (Nat.le_trans (Nat.le_trans (Nat.le_trans (Nat.le_trans (Nat.le_trans (Nat.le_trans (Nat.le_trans (Nat.le_trans (Nat.le_trans (Nat.le_trans (Nat.le_trans (Nat.le_trans (Nat.le_trans (Nat.le_trans E31.1 (Nat.le_of_eq W34.size.symm)) (Nat.le_of_eq W37.size.symm)) (Nat.le_of_eq W40.size.symm)) (Nat.le_of_eq W43.size.symm)) (Nat.le_of_eq W46.size.symm)) (Nat.le_of_eq W49.size.symm)) (Nat.le_of_eq W52.size.symm)) (Nat.le_of_eq W55.size.symm)) (Nat.le_of_eq W58.size.symm)) E60.1) (Nat.le_of_eq W63.size.symm)) (Nat.le_of_eq W66.size.symm)) (Nat.le_of_eq W69.size.symm)) (Nat.le_of_eq W72.size.symm)) (Nat.le_of_eq W75.size.symm)) (Nat.le_of_eq W78.size.symm)) (Nat.le_of_eq W81.size.symm)) (Nat.le_of_eq W84.size.symm)) (Nat.le_of_eq W87.size.symm)) (Nat.le_of_eq W90.size.symm)) Kj93.1) Kj229.1)) (Nat.le_of_eq q378.symm)))
        have f540 := ((((((((((((((((((((((((((((((((p12_F.ext E31).other W34 (Or.inl ne537)).other W37 (Or.inl ne537)).other W40 (Or.inl ne537)).other W43 (Or.inl ne537)).other W46 (Or.inl ne537)).other W49 (Or.inl ne537)).other W52 (Or.inl ne537)).other W55 (Or.inl ne537)).other W58 (Or.inl ne537)).ext E60).other W63 (Or.inl ne538)).other W66 (Or.inl ne538)).other W69 (Or.inl ne538)).other W72 (Or.inl ne538)).other W75 (Or.inl ne538)).other W78 (Or.inl ne538)).other W81 (Or.inl ne538)).other W84 (Or.inl ne538)).other W87 (Or.inl ne538)).other W90 (Or.inl ne538)).keep Kj93 (ninS ne537 nin0)).keep Kj229 (ninS ne538 nin0)).ext E378).other W489 (Or.inl ne539)).other W493 (Or.inl ne539)).keep Kq497 (ninS ne539 nin0)).other W501 (Or.inl ne539)).other W505 (Or.inl ne539)).keep Kq510 (ninS ne539 nin0)).other W514 (Or.inl ne539)).other W518 (Or.inl ne539))
        have f541 := ((((((((((((((((((((((((((((((((p13_E.ext E31).wr W34).wr W37).wr W40).wr W43).wr W46).wr W49).wr W52).wr W55).wr W58).ext E60).wr W63).wr W66).wr W69).wr W72).wr W75).wr W78).wr W81).wr W84).wr W87).wr W90).keep Kj93).keep Kj229).ext E378).wr W489).wr W493).keep Kq497).wr W501).wr W505).keep Kq510).wr W514).wr W518)
        have ne542 : tp ≠ b31 := (Nat.ne_of_lt (Nat.lt_of_lt_of_le p13_E.lt (Nat.le_of_eq q31.symm)))
        have ne543 : tp ≠ b60 := (Nat.ne_of_lt (Nat.lt_of_lt_of_le (Nat.lt_of_lt_of_le p13_E.lt (Nat.le_trans (Nat.le_trans (Nat.le_trans (Nat.le_trans (Nat.le_trans (Nat.le_trans (Nat.le_trans (Nat.le_trans (Nat.le_trans E31.1 (Nat.le_of_eq W34.size.symm)) (Nat.le_of_eq W37.size.symm)) (Nat.le_of_eq W40.size.symm)) (Nat.le_of_eq W43.size.symm)) (Nat.le_of_eq W46.size.symm)) (Nat.le_of_eq W49.size.symm)) (Nat.le_of_eq W52.size.symm)) (Nat.le_of_eq W55.size.symm)) (Nat.le_of_eq W58.size.symm))) (Nat.le_of_eq q60.symm)))
        have ne544 : tp ≠ b378 := (Nat.ne_of_lt (Nat.lt_of_lt_of_le (Nat.lt_of_lt_of_le p13_E.lt (Nat.le_trans (Nat.le_trans (Nat.le_trans (Nat.le_trans (Nat.le_trans (Nat.le_trans (Nat.le_trans (Nat.le_trans (Nat.le_trans (Nat.le_trans (Nat.le_trans (Nat.le_trans (Nat.le_trans (Nat.le_trans (Nat.le_trans (Nat.le_trans (Nat.le_trans (Nat.le_trans (Nat.le_trans (Nat.le_trans (Nat.le_trans (Nat.le_trans E31.1 (Nat.le_of_eq W34.size.symm)) (Nat.le_of_eq W37.size.symm)) (Nat.le_of_eq W40.size.symm)) (Nat.le_of_eq W43.size.symm)) (Nat.le_of_eq W46.size.symm)) (Nat.le_of_eq W49.size.symm)) (Nat.le_of_eq W52.size.symm)) (Nat.le_of_eq W55.size.symm)) (Nat.le_of_eq W58.size.symm)) E60.1) (Nat.le_of_eq W63.size.symm)) (Nat.le_of_eq W66.size.symm)) (Nat.le_of_eq W69.size.symm)) (Nat.le_of_eq W72.size.symm)) (Nat.le_of_eq W75.size.symm)) (Nat.le_of_eq W78.size.symm)) (Nat.le_of_eq W81.size.symm)) (Nat.le_of_eq W84.size.symm)) (Nat.le_of_eq W87.size.symm)) (Nat.le_of_eq W90.size.symm)) Kj93.1) Kj229.1)) (Nat.le_of_eq q378.symm)))
        have f545 := ((((((((((((((((((((((((((((((((p14_F.ext E31).other W34 (Or.inl ne542)).other W37 (Or.inl ne542)).other W40 (Or.inl ne542)).other W43 (Or.inl ne542)).other W46 (Or.inl ne542)).other W49 (Or.inl ne542)).other W52 (Or.inl ne542)).other W55 (Or.inl ne542)).other W58 (Or.inl ne542)).ext E60).other W63 (Or.inl ne543)).other W66 (Or.inl ne543)).other W69 (Or.inl ne543)).other W72 (Or.inl ne543)).other W75 (Or.inl ne543)).other W78 (Or.inl ne543)).other W81 (Or.inl ne543)).other W84 (Or.inl ne543)).other W87 (Or.inl ne543)).other W90 (Or.inl ne543)).keep Kj93 (ninS ne542 nin0)).keep Kj229 (ninS ne543 nin0)).ext E378).other W489 (Or.inl ne544)).other W493 (Or.inl ne544)).keep Kq497 (ninS ne544 nin0)).other W501 (Or.inl ne544)).other W505 (Or.inl ne544)).keep Kq510 (ninS ne544 nin0)).other W514 (Or.inl ne544)).other W518 (Or.inl ne544))
        have f546 := ((((((((((((((((((((((((((((((((p15_F.ext E31).other W34 (Or.inl ne542)).other W37 (Or.inl ne542)).other W40 (Or.inl ne542)).other W43 (Or.inl ne542)).other W46 (Or.inl ne542)).other W49 (Or.inl ne542)).other W52 (Or.inl ne542)).other W55 (Or.inl ne542)).other W58 (Or.inl ne542)).ext E60).other W63 (Or.inl ne543)).other W66 (Or.inl ne543)).other W69 (Or.inl ne543)).other W72 (Or.inl ne543)).other W75 (Or.inl ne543)).other W78 (Or.inl ne543)).other W81 (Or.inl ne543)).other W84 (Or.inl ne543)).other W87 (Or.inl ne543)).other W90 (Or.inl ne543)).keep Kj93 (ninS ne542 nin0)).keep Kj229 (ninS ne543 nin0)).ext E378).other W489 (Or.inl ne544)).other W493 (Or.inl ne544)).keep Kq497 (ninS ne544 nin0)).other W501 (Or.inl ne544)).other W505 (Or.inl ne544)).keep Kq510 (ninS ne544 nin0)).other W514 (Or.inl ne544)).other W518 (Or.inl ne544))
        have ne547 : vbp ≠ b31 := (Nat.ne_of_lt (Nat.lt_of_lt_of_le p16_A.lt (Nat.le_of_eq q31.symm)))
        have ne548 : vbp ≠ b60 := (Nat.ne_of_lt (Nat.lt_of_lt_of_le (Nat.lt_of_lt_of_le p16_A.lt (Nat.le_trans (Nat.le_trans (Nat.le_trans (Nat.le_trans (Nat.le_trans (Nat.le_trans (Nat.le_trans (Nat.le_trans (Nat.le_trans E31.1 (Nat.le_of_eq W34.size.symm)) (Nat.le_of_eq W37.size.symm)) (Nat.le_of_eq W40.size.symm)) (Nat.le_of_eq W43.size.symm)) (Nat.le_of_eq W46.size.symm)) (Nat.le_of_eq W49.size.symm)) (Nat.le_of_eq W52.size.symm)) (Nat.le_of_eq W55.size.symm)) (Nat.le_of_eq W58.size.symm))) (Nat.le_of_eq q60.symm)))
        have ne549 : vbp ≠ b378 := (Nat.ne_of_lt (Nat.lt_of_lt_of_le (Nat.lt_of_lt_of_le p16_A.lt (Nat.le_trans (Nat.le_trans (Nat.le_trans (Nat.le_trans (Nat.le_trans (Nat.le_trans (Nat.le_trans (Nat.le_trans (Nat.le_trans (Nat.le_trans (Nat.le_trans (Nat.le_trans (Nat.le_trans (Nat.le_trans (Nat.le_trans (Nat.le_trans (Nat.le_trans (Nat.le_trans (Nat.le_trans (Nat.le_trans (Nat.le_trans (Nat.le_trans E31.1 (Nat.le_of_eq W34.size.symm)) (Nat.le_of_eq W37.size.symm)) (Nat.le_of_eq W40.size.symm)) (Nat.le_of_eq W43.size.symm)) (Nat.le_of_eq W46.size.symm)) (Nat.le_of_eq W49.size.symm)) (Nat.le_of_eq W52.size.symm)) (Nat.le_of_eq W55.size.symm)) (Nat.le_of_eq W58.size.symm)) E60.1) (Nat.le_of_eq W63.size.symm)) (Nat.le_of_eq W66.size.symm)) (Nat.le_of_eq W69.size.symm)) (Nat.le_of_eq W72.size.symm)) (Nat.le_of_eq W75.size.symm)) (Nat.le_of_eq W78.size.symm)) (Nat.le_of_eq W81.size.symm)) (Nat.le_of_eq W84.size.symm)) (Nat.le_of_eq W87.size.symm)) (Nat.le_of_eq W90.size.symm)) Kj93.1) Kj229.1)) (Nat.le_of_eq q378.symm)))
        have f550 := ((((((((((((((((((((((((((((((((p16_A.ext E31).other W34 ne547).other W37 ne547).other W40 ne547).other W43 ne547).other W46 ne547).other W49 ne547).other W52 ne547).other W55 ne547).other W58 ne547).ext E60).other W63 ne548).other W66 ne548).other W69 ne548).other W72 ne548).other W75 ne548).other W78 ne548).other W81 ne548).other W84 ne548).other W87 ne548).other W90 ne548).keep Kj93 (ninS ne547 nin0)).keep Kj229 (ninS ne548 nin0)).ext E378).other W489 ne549).other W493 ne549).keep Kq497 (ninS ne549 nin0)).other W501 ne549).other W505 ne549).keep Kq510 (ninS ne549 nin0)).other W514 ne549).other W518 ne549)
        have f551 := (((f509.keep Kq510 (ninS ne508 nin0)).other W514 ne508).other W518 ne508)
        have f552 := ((((((f496.keep Kq497 (ninS ne495 nin0)).other W501 ne495).other W505 ne495).keep Kq510 (ninS ne495 nin0)).other W514 ne495).other W518 ne495)
        refine cps (A := ∃ (ev : Value) (T : State) (Lq : List Loc), Stand p l e room_1 s m #[(.int i0), (.long j1), (.int i3), (.int i4)] below meth c T Lq 3 44 ∧ Fr n0 Lq ∧ T.heap = h518 ∧ (∀ tz_, Steps p.tables e below (T.setTop (mkF m 389 #[.val (.int i0), .val (.long j1), .second, .val (.int i3), .val (.int i4), .val (.ref b31), .val (.ref b60), .val (.int ti), .val (.int pi), .val (.ref b378), .val (.int 0), .val (.ref b60), .val (.ref b31), .val (.int 23), .val ev] [])) tz_ → Steps p.tables e below (s₁.setTop (entryFrame m #[(.int i0), (.long j1), (.int i3), (.int i4)] maxLocals)) tz_) ∧ (Expd ti pi wt wp ev) ∧ (ev.isRef = true)) (fun tail553 => ?_) ?_
        · skip
          have pre554 : ∀ tz_, Steps p.tables e below (T518.setTop (mkF m 358 #[.val (.int i0), .val (.long j1), .second, .val (.int i3), .val (.int i4), .val (.ref b31), .val (.ref b60), .val (.int ti), .val (.int pi), .val (.ref b378), .val (.int 0), .val (.ref b60), .val (.ref b31), .val (.int 23), .val .null] [(.int ti)])) tz_ → Steps p.tables e below (s₁.setTop (entryFrame m #[(.int i0), (.long j1), (.int i3), (.int i4)] maxLocals)) tz_ := fun tz_ kk => pre520 tz_ (by
            show Steps p.tables e below (T518.setTop (mkF m 356 #[.val (.int i0), .val (.long j1), .second, .val (.int i3), .val (.int i4), .val (.ref b31), .val (.ref b60), .val (.int ti), .val (.int pi), .val (.ref b378), .val (.int 0), .val (.ref b60), .val (.ref b31), .val (.int 23), .val .null] [])) _
            refine XS.iload X518.here hx rfl (hb hby at_356) rfl ?_
            exact kk)
          by_cases hc555 : ti = (0 : Int32)
          · skip
            have pre556 : ∀ tz_, Steps p.tables e below (T518.setTop (mkF m 376 #[.val (.int i0), .val (.long j1), .second, .val (.int i3), .val (.int i4), .val (.ref b31), .val (.ref b60), .val (.int ti), .val (.int pi), .val (.ref b378), .val (.int 0), .val (.ref b60), .val (.ref b31), .val (.int 23), .val .null] [(.int pi)])) tz_ → Steps p.tables e below (s₁.setTop (entryFrame m #[(.int i0), (.long j1), (.int i3), (.int i4)] maxLocals)) tz_ := fun tz_ kk => pre554 tz_ (by
              show Steps p.tables e below (T518.setTop (mkF m 358 #[.val (.int i0), .val (.long j1), .second, .val (.int i3), .val (.int i4), .val (.ref b31), .val (.ref b60), .val (.int ti), .val (.int pi), .val (.ref b378), .val (.int 0), .val (.ref b60), .val (.ref b31), .val (.int 23), .val .null] [(.int ti)])) _
              refine XS.ifYes X518.here hx rfl (pc0 := 358) (pc' := 374) rfl (hb hby at_358) rfl ((if0 _ _).trans (teq hc555).1) (by decide) (by decide) ?_
              refine XS.iload X518.here hx rfl (hb hby at_374) rfl ?_
              exact kk)
            by_cases hc557 : pi = (0 : Int32)
            · skip
              have pre558 : ∀ tz_, Steps p.tables e below (T518.setTop (mkF m 389 #[.val (.int i0), .val (.long j1), .second, .val (.int i3), .val (.int i4), .val (.ref b31), .val (.ref b60), .val (.int ti), .val (.int pi), .val (.ref b378), .val (.int 0), .val (.ref b60), .val (.ref b31), .val (.int 23), .val .null] [])) tz_ → Steps p.tables e below (s₁.setTop (entryFrame m #[(.int i0), (.long j1), (.int i3), (.int i4)] maxLocals)) tz_ := fun tz_ kk => pre556 tz_ (by
                show Steps p.tables e below (T518.setTop (mkF m 376 #[.val (.int i0), .val (.long j1), .second, .val (.int i3), .val (.int i4), .val (.ref b31), .val (.ref b60), .val (.int ti), .val (.int pi), .val (.ref b378), .val (.int 0), .val (.ref b60), .val (.ref b31), .val (.int 23), .val .null] [(.int pi)])) _
                refine XS.ifYes X518.here hx rfl (pc0 := 376) (pc' := 389) rfl (hb hby at_376) rfl ((if0 _ _).trans (teq hc557).1) (by decide) (by decide) ?_
                exact kk)
              exact tail553 ⟨.null, T518, _, X518, N518, e518, pre558, (by unfold Expd; simp [hc555, hc557]), rfl⟩
            · skip
              obtain ⟨T559, X559, e559, st559⟩ := getS2 X518 hx hZ hown (host := "") (Or.inl (hw _ (mg (i := 90) rfl))) Via.refl e518 (p4_S.ext O519.2) (g := (mkF m 384 #[.val (.int i0), .val (.long j1), .second, .val (.int i3), .val (.int i4), .val (.ref b31), .val (.ref b60), .val (.int ti), .val (.int pi), .val (.ref b378), .val (.int 0), .val (.ref b60), .val (.ref b31), .val (.int 23), .val .null] [])) rfl (hb hby at_384)
              have pre560 : ∀ tz_, Steps p.tables e below (T559.setTop (mkF m 389 #[.val (.int i0), .val (.long j1), .second, .val (.int i3), .val (.int i4), .val (.ref b31), .val (.ref b60), .val (.int ti), .val (.int pi), .val (.ref b378), .val (.int 0), .val (.ref b60), .val (.ref b31), .val (.int 23), .val (.ref wp)] [])) tz_ → Steps p.tables e below (s₁.setTop (entryFrame m #[(.int i0), (.long j1), (.int i3), (.int i4)] maxLocals)) tz_ := fun tz_ kk => pre556 tz_ (by
                show Steps p.tables e below (T518.setTop (mkF m 376 #[.val (.int i0), .val (.long j1), .second, .val (.int i3), .val (.int i4), .val (.ref b31), .val (.ref b60), .val (.int ti), .val (.int pi), .val (.ref b378), .val (.int 0), .val (.ref b60), .val (.ref b31), .val (.int 23), .val .null] [(.int pi)])) _
                refine XS.ifNo X518.here hx rfl (hb hby at_376) rfl ((if0 _ _).trans (feq hc557).1) ?_
                show Steps p.tables e below (T518.setTop (mkF m 379 #[.val (.int i0), .val (.long j1), .second, .val (.int i3), .val (.int i4), .val (.ref b31), .val (.ref b60), .val (.int ti), .val (.int pi), .val (.ref b378), .val (.int 0), .val (.ref b60), .val (.ref b31), .val (.int 23), .val .null] [])) _
                refine XS.iload X518.here hx rfl (hb hby at_379) rfl ?_
                show Steps p.tables e below (T518.setTop (mkF m 381 #[.val (.int i0), .val (.long j1), .second, .val (.int i3), .val (.int i4), .val (.ref b31), .val (.ref b60), .val (.int ti), .val (.int pi), .val (.ref b378), .val (.int 0), .val (.ref b60), .val (.ref b31), .val (.int 23), .val .null] [(.int ti)])) _
                refine XS.ifNo X518.here hx rfl (hb hby at_381) rfl ((if0 _ _).trans (teq hc555).2) ?_
                show Steps p.tables e below (T518.setTop (mkF m 384 #[.val (.int i0), .val (.long j1), .second, .val (.int i3), .val (.int i4), .val (.ref b31), .val (.ref b60), .val (.int ti), .val (.int pi), .val (.ref b378), .val (.int 0), .val (.ref b60), .val (.ref b31), .val (.int 23), .val .null] [])) _
                refine st559 _ ?_
                refine XS.astore X559.here hx rfl (hb hby at_387) rfl rfl (l' := #[.val (.int i0), .val (.long j1), .second, .val (.int i3), .val (.int i4), .val (.ref b31), .val (.ref b60), .val (.int ti), .val (.int pi), .val (.ref b378), .val (.int 0), .val (.ref b60), .val (.ref b31), .val (.int 23), .val (.ref wp)]) rfl ?_
                exact kk)
              exact tail553 ⟨(.ref wp), T559, _, X559, N518, e559, pre560, (by unfold Expd; simp [hc555, hc557]), rfl⟩
          · skip
            have pre561 : ∀ tz_, Steps p.tables e below (T518.setTop (mkF m 363 #[.val (.int i0), .val (.long j1), .second, .val (.int i3), .val (.int i4), .val (.ref b31), .val (.ref b60), .val (.int ti), .val (.int pi), .val (.ref b378), .val (.int 0), .val (.ref b60), .val (.ref b31), .val (.int 23), .val .null] [(.int pi)])) tz_ → Steps p.tables e below (s₁.setTop (entryFrame m #[(.int i0), (.long j1), (.int i3), (.int i4)] maxLocals)) tz_ := fun tz_ kk => pre554 tz_ (by
              show Steps p.tables e below (T518.setTop (mkF m 358 #[.val (.int i0), .val (.long j1), .second, .val (.int i3), .val (.int i4), .val (.ref b31), .val (.ref b60), .val (.int ti), .val (.int pi), .val (.ref b378), .val (.int 0), .val (.ref b60), .val (.ref b31), .val (.int 23), .val .null] [(.int ti)])) _
              refine XS.ifNo X518.here hx rfl (hb hby at_358) rfl ((if0 _ _).trans (feq hc555).1) ?_
              show Steps p.tables e below (T518.setTop (mkF m 361 #[.val (.int i0), .val (.long j1), .second, .val (.int i3), .val (.int i4), .val (.ref b31), .val (.ref b60), .val (.int ti), .val (.int pi), .val (.ref b378), .val (.int 0), .val (.ref b60), .val (.ref b31), .val (.int 23), .val .null] [])) _
              refine XS.iload X518.here hx rfl (hb hby at_361) rfl ?_
              exact kk)
            by_cases hc562 : pi = (0 : Int32)
            · skip
              obtain ⟨T563, X563, e563, st563⟩ := getS2 X518 hx hZ hown (host := "") (Or.inl (hw _ (mg (i := 91) rfl))) Via.refl e518 (p3_S.ext O519.2) (g := (mkF m 366 #[.val (.int i0), .val (.long j1), .second, .val (.int i3), .val (.int i4), .val (.ref b31), .val (.ref b60), .val (.int ti), .val (.int pi), .val (.ref b378), .val (.int 0), .val (.ref b60), .val (.ref b31), .val (.int 23), .val .null] [])) rfl (hb hby at_366)
              have pre564 : ∀ tz_, Steps p.tables e below (T563.setTop (mkF m 389 #[.val (.int i0), .val (.long j1), .second, .val (.int i3), .val (.int i4), .val (.ref b31), .val (.ref b60), .val (.int ti), .val (.int pi), .val (.ref b378), .val (.int 0), .val (.ref b60), .val (.ref b31), .val (.int 23), .val (.ref wt)] [])) tz_ → Steps p.tables e below (s₁.setTop (entryFrame m #[(.int i0), (.long j1), (.int i3), (.int i4)] maxLocals)) tz_ := fun tz_ kk => pre561 tz_ (by
                show Steps p.tables e below (T518.setTop (mkF m 363 #[.val (.int i0), .val (.long j1), .second, .val (.int i3), .val (.int i4), .val (.ref b31), .val (.ref b60), .val (.int ti), .val (.int pi), .val (.ref b378), .val (.int 0), .val (.ref b60), .val (.ref b31), .val (.int 23), .val .null] [(.int pi)])) _
                refine XS.ifNo X518.here hx rfl (hb hby at_363) rfl ((if0 _ _).trans (teq hc562).2) ?_
                show Steps p.tables e below (T518.setTop (mkF m 366 #[.val (.int i0), .val (.long j1), .second, .val (.int i3), .val (.int i4), .val (.ref b31), .val (.ref b60), .val (.int ti), .val (.int pi), .val (.ref b378), .val (.int 0), .val (.ref b60), .val (.ref b31), .val (.int 23), .val .null] [])) _
                refine st563 _ ?_
                refine XS.astore X563.here hx rfl (hb hby at_369) rfl rfl (l' := #[.val (.int i0), .val (.long j1), .second, .val (.int i3), .val (.int i4), .val (.ref b31), .val (.ref b60), .val (.int ti), .val (.int pi), .val (.ref b378), .val (.int 0), .val (.ref b60), .val (.ref b31), .val (.int 23), .val (.ref wt)]) rfl ?_
                show Steps p.tables e below (T563.setTop (mkF m 371 #[.val (.int i0), .val (.long j1), .second, .val (.int i3), .val (.int i4), .val (.ref b31), .val (.ref b60), .val (.int ti), .val (.int pi), .val (.ref b378), .val (.int 0), .val (.ref b60), .val (.ref b31), .val (.int 23), .val (.ref wt)] [])) _
                refine XS.goto X563.here hx rfl (pc0 := 371) (pc' := 389) rfl (hb hby at_371) (by decide) (by decide) ?_
                exact kk)
              exact tail553 ⟨(.ref wt), T563, _, X563, N518, e563, pre564, (by unfold Expd; simp [hc555, hc562]), rfl⟩
            · skip
              have pre565 : ∀ tz_, Steps p.tables e below (T518.setTop (mkF m 389 #[.val (.int i0), .val (.long j1), .second, .val (.int i3), .val (.int i4), .val (.ref b31), .val (.ref b60), .val (.int ti), .val (.int pi), .val (.ref b378), .val (.int 0), .val (.ref b60), .val (.ref b31), .val (.int 23), .val .null] [])) tz_ → Steps p.tables e below (s₁.setTop (entryFrame m #[(.int i0), (.long j1), (.int i3), (.int i4)] maxLocals)) tz_ := fun tz_ kk => pre561 tz_ (by
                show Steps p.tables e below (T518.setTop (mkF m 363 #[.val (.int i0), .val (.long j1), .second, .val (.int i3), .val (.int i4), .val (.ref b31), .val (.ref b60), .val (.int ti), .val (.int pi), .val (.ref b378), .val (.int 0), .val (.ref b60), .val (.ref b31), .val (.int 23), .val .null] [(.int pi)])) _
                refine XS.ifYes X518.here hx rfl (pc0 := 363) (pc' := 374) rfl (hb hby at_363) rfl ((if0 _ _).trans (feq hc562).2) (by decide) (by decide) ?_
                refine XS.iload X518.here hx rfl (hb hby at_374) rfl ?_
                show Steps p.tables e below (T518.setTop (mkF m 376 #[.val (.int i0), .val (.long j1), .second, .val (.int i3), .val (.int i4), .val (.ref b31), .val (.ref b60), .val (.int ti), .val (.int pi), .val (.ref b378), .val (.int 0), .val (.ref b60), .val (.ref b31), .val (.int 23), .val .null] [(.int pi)])) _
                refine XS.ifNo X518.here hx rfl (hb hby at_376) rfl ((if0 _ _).trans (feq hc562).1) ?_
                refine XS.iload X518.here hx rfl (hb hby at_379) rfl ?_
                show Steps p.tables e below (T518.setTop (mkF m 381 #[.val (.int i0), .val (.long j1), .second, .val (.int i3), .val (.int i4), .val (.ref b31), .val (.ref b60), .val (.int ti), .val (.int pi), .val (.ref b378), .val (.int 0), .val (.ref b60), .val (.ref b31), .val (.int 23), .val .null] [(.int ti)])) _
                refine XS.ifYes X518.here hx rfl (pc0 := 381) (pc' := 389) rfl (hb hby at_381) rfl ((if0 _ _).trans (feq hc555).2) (by decide) (by decide) ?_
                exact kk)
              exact tail553 ⟨.null, T518, _, X518, N518, e518, pre565, (by unfold Expd; simp [hc555, hc562]), rfl⟩
        · skip
          rintro ⟨ev, T553, Lq553, X553, N553, e553, pre553, hev, rev⟩
          obtain ⟨T566, h566, X566, e566, E566, A566, D566, -, st566⟩ := newO X553 hx hZ hown (hw _ (mg (i := 9) rfl)) (hw _ (mg (i := 10) rfl)) (hw _ (mg (i := 11) rfl)) e553 (g := (mkF m 389 #[.val (.int i0), .val (.long j1), .second, .val (.int i3), .val (.int i4), .val (.ref b31), .val (.ref b60), .val (.int ti), .val (.int pi), .val (.ref b378), .val (.int 0), .val (.ref b60), .val (.ref b31), .val (.int 23), .val ev] [])) rfl (hb hby at_389) (by decide) (by decide)
          obtain ⟨b566, q566⟩ : ∃ z, z = h518.size := ⟨_, rfl⟩
          rw [← q566] at A566 D566 st566
          have g_b566 : n0 ≤ b566 := Nat.le_trans (own_le O519) (Nat.le_of_eq q566.symm)
          have sz_b566 : h0.size ≤ b566 := Nat.le_trans K519.1 (Nat.le_of_eq q566.symm)
          have K567 := K519.ext E566
          have O567 := O519.ext E566
          have F566_coder : Fld Z h566 b566 "java/lang/String" "coder" "B" (.int 0) := D566 (Or.inr (hw _ (mg (i := 35) rfl))) (ty := .byte) (by decide)
          have F566_value : Fld Z h566 b566 "java/lang/String" "value" "[B" .null := D566 (Or.inr (hw _ (mg (i := 37) rfl))) (ty := (.array .byte)) (by decide)
          have f568 := (V518.ext E566)
          have ne569 : b566 ≠ b378 := (Ne.symm (Nat.ne_of_lt (Nat.lt_of_lt_of_le V518.lt (Nat.le_of_eq q566.symm))))
          -- pc 395: String.init
          obtain ⟨_, _, ⟨T570, L570, k570, n570⟩, -, X570, ⟨Lc570, hQ570, l570, y570, z570⟩, st570⟩ := X566.specialBack hx (y := (⟨"java/lang/String", "<init>", "([C)V"⟩ : MethodName)) rfl hown (mvT hZ (hw _ (mg (i := 12) rfl))) (mvT hZ (hw _ (mg (i := 13) rfl))) (mvT hZ (hw _ (mg (i := 14) rfl))) (by decide) (backOf (W := 1) (sc25 l Z av0 hw [] b566 b378 (gapv j1 (0 : Int32)) (gapv j1 (1 : Int32)) y0 y1 y2 y3 y4 y5 y6 y7 y8 y9 (gapv j1 (2 : Int32)) (gapv j1 (3 : Int32)) x0 x1 x2 x3 x4 x5 x6 x7 x8 (gapv j1 (4 : Int32)) (gapv j1 (5 : Int32)) k378 cs h566 n0 (own_le O567) O567 p1_S (hcs : ¬ (cs = (0 : Int32))) A566 F566_value F566_coder g_b566 f568 ne569 (own_ch255 (own_gapch j1 (0 : Int32)) : ¬ ((255 : Int32) < (gapv j1 (0 : Int32)))) (own_ch255 (own_gapch j1 (1 : Int32)) : ¬ ((255 : Int32) < (gapv j1 (1 : Int32)))) (own_ch255 (hc_y0) : ¬ ((255 : Int32) < y0)) (own_ch255 (hc_y1) : ¬ ((255 : Int32) < y1)) (own_ch255 (hc_y2) : ¬ ((255 : Int32) < y2)) (own_ch255 (hc_y3) : ¬ ((255 : Int32) < y3)) (own_ch255 (hc_y4) : ¬ ((255 : Int32) < y4)) (own_ch255 (hc_y5) : ¬ ((255 : Int32) < y5)) (own_ch255 (hc_y6) : ¬ ((255 : Int32) < y6)) (own_ch255 (hc_y7) : ¬ ((255 : Int32) < y7)) (own_ch255 (hc_y8) : ¬ ((255 : Int32) < y8)) (own_ch255 (hc_y9) : ¬ ((255 : Int32) < y9)) (own_ch255 (own_gapch j1 (2 : Int32)) : ¬ ((255 : Int32) < (gapv j1 (2 : Int32)))) (own_ch255 (own_gapch j1 (3 : Int32)) : ¬ ((255 : Int32) < (gapv j1 (3 : Int32)))) (own_ch255 (hc_x0) : ¬ ((255 : Int32) < x0)) (own_ch255 (hc_x1) : ¬ ((255 : Int32) < x1)) (own_ch255 (hc_x2) : ¬ ((255 : Int32) < x2)) (own_ch255 (hc_x3) : ¬ ((255 : Int32) < x3)) (own_ch255 (hc_x4) : ¬ ((255 : Int32) < x4)) (own_ch255 (hc_x5) : ¬ ((255 : Int32) < x5)) (own_ch255 (hc_x6) : ¬ ((255 : Int32) < x6)) (own_ch255 (hc_x7) : ¬ ((255 : Int32) < x7)) (own_ch255 (hc_x8) : ¬ ((255 : Int32) < x8)) (own_ch255 (own_gapch j1 (4 : Int32)) : ¬ ((255 : Int32) < (gapv j1 (4 : Int32)))) (own_ch255 (own_gapch j1 (5 : Int32)) : ¬ ((255 : Int32) < (gapv j1 (5 : Int32))))) hZ (hw _ (mg (i := 14) rfl)) (hw _ (mg (i := 11) rfl)) (by decide) (by decide)) (g := (mkF m 395 #[.val (.int i0), .val (.long j1), .second, .val (.int i3), .val (.int i4), .val (.ref b31), .val (.ref b60), .val (.int ti), .val (.int pi), .val (.ref b378), .val (.int 0), .val (.ref b60), .val (.ref b31), .val (.int 23), .val ev] [(.ref b378), (.ref b566), (.ref b566)])) rfl (by rw [hml]; rfl) (Steps.refl _) (a := b566) (argsL := [(.ref b378)]) (rest := [(.ref b566)]) (lenOf pd_2 rfl) rfl (by show 2 * 0 + _ ≤ _; exact Nat.le_of_eq rfl) (hb hby at_395) (fun vmx hWx => ⟨rfl, e566, (by decide : 4 + 1 ≤ _), (by decide : 48 + 25 ≤ _)⟩)
          dsimp only [Pt.U, Pt.locs, Pt.cells, Pt.slots] at X570 l570 y570 z570 st570 hQ570
          subst l570 y570 z570
          obtain ⟨b_570, kb_570, rv570, Nq570, Kq570, u570_0, u570_1, u570_2, u570_3, u570_4⟩ := hQ570
          subst rv570
          have N570 := Fr.app N553 Nq570
          have g_b_570 : n0 ≤ b_570 := Nat.le_trans (own_le O567) u570_0
          have sz_b_570 : h0.size ≤ b_570 := Nat.le_trans K567.1 u570_0
          have K571 := K567.trans Kq570 (allS (Or.inr sz_b566) all0)
          have O571 := O567.keep Kq570 (allS g_b566 all0)
          obtain ⟨tq, htq⟩ : ∃ z, z = text2 ((gapv j1 (0 : Int32)).toInt8.toInt32) ((gapv j1 (1 : Int32)).toInt8.toInt32) ((gapv j1 (2 : Int32)).toInt8.toInt32) ((gapv j1 (3 : Int32)).toInt8.toInt32) ((gapv j1 (4 : Int32)).toInt8.toInt32) ((gapv j1 (5 : Int32)).toInt8.toInt32) ([y0, y1, y2, y3, y4, y5, y6, y7, y8, y9].map b8) ([x0, x1, x2, x3, x4, x5, x6, x7, x8].map b8) := ⟨_, rfl⟩
          have ax572 : ∀ x ∈ [x0, x1, x2, x3, x4, x5, x6, x7, x8], Ch x := own_all _ (fun i hi => by
            match i, hi with
            | 0, _ => exact hc_x0
            | 1, _ => exact hc_x1
            | 2, _ => exact hc_x2
            | 3, _ => exact hc_x3
            | 4, _ => exact hc_x4
            | 5, _ => exact hc_x5
            | 6, _ => exact hc_x6
            | 7, _ => exact hc_x7
            | 8, _ => exact hc_x8)
          have ay572 : ∀ x ∈ [y0, y1, y2, y3, y4, y5, y6, y7, y8, y9], Ch x := own_all _ (fun i hi => by
            match i, hi with
            | 0, _ => exact hc_y0
            | 1, _ => exact hc_y1
            | 2, _ => exact hc_y2
            | 3, _ => exact hc_y3
            | 4, _ => exact hc_y4
            | 5, _ => exact hc_y5
            | 6, _ => exact hc_y6
            | 7, _ => exact hc_y7
            | 8, _ => exact hc_y8
            | 9, _ => exact hc_y9)
          have hrv572 : HRv tq wt wp ev := by rw [htq]; exact own_hrv_pt ht hp ax572 ay572 hev
          have f573 := ((f521.ext E566).keep Kq570)
          have ne574 : wt ≠ b566 := (Nat.ne_of_lt (Nat.lt_of_lt_of_le f521.lt (Nat.le_of_eq q566.symm)))
          have f575 := ((f525.ext E566).keep Kq570 (ninS ne574 nin0))
          have f576 := ((f526.ext E566).keep Kq570)
          have ne577 : tt ≠ b566 := (Nat.ne_of_lt (Nat.lt_of_lt_of_le f526.lt (Nat.le_of_eq q566.symm)))
          have f578 := ((f530.ext E566).keep Kq570 (ninS ne577 nin0))
          have f579 := ((f531.ext E566).keep Kq570 (ninS ne577 nin0))
          have ne580 : vbt ≠ b566 := (Nat.ne_of_lt (Nat.lt_of_lt_of_le f535.lt (Nat.le_of_eq q566.symm)))
          have f581 := ((f535.ext E566).keep Kq570 (ninS ne580 nin0))
          have f582 := ((f536.ext E566).keep Kq570)
          have ne583 : wp ≠ b566 := (Nat.ne_of_lt (Nat.lt_of_lt_of_le f536.lt (Nat.le_of_eq q566.symm)))
          have f584 := ((f540.ext E566).keep Kq570 (ninS ne583 nin0))
          have f585 := ((f541.ext E566).keep Kq570)
          have ne586 : tp ≠ b566 := (Nat.ne_of_lt (Nat.lt_of_lt_of_le f541.lt (Nat.le_of_eq q566.symm)))
          have f587 := ((f545.ext E566).keep Kq570 (ninS ne586 nin0))
          have f588 := ((f546.ext E566).keep Kq570 (ninS ne586 nin0))
          have ne589 : vbp ≠ b566 := (Nat.ne_of_lt (Nat.lt_of_lt_of_le f550.lt (Nat.le_of_eq q566.symm)))
          have f590 := ((f550.ext E566).keep Kq570 (ninS ne589 nin0))
          -- pc 398: OwnerFilter.writtenIn
          obtain ⟨_, _, ⟨T591, L591, k591, n591⟩, -, X591, ⟨Lc591, hQ591, l591, y591, z591⟩, st591⟩ := Jvm.LawKit.callS X570 hx (y := (⟨"com/example/ulinzi/ulinzi/model/OwnerFilter", "writtenIn", "(Ljava/lang/String;)Lcom/example/ulinzi/ulinzi/model/OwnerName;"⟩ : MethodName)) hown (mvT hZ (hw _ (mg (i := 38) rfl))) (mvT hZ (hw _ (mg (i := 39) rfl))) (mvT hZ (hw _ (mg (i := 40) rfl))) (mvT hZ (hw _ (mg (i := 41) rfl))) (by decide) (backOf (W := 0) (rm9 l Z av0 hw [] b566 tq [(.int ((gapv j1 (0 : Int32)).toInt8.toInt32)), (.int ((gapv j1 (1 : Int32)).toInt8.toInt32)), (.int (y0.toInt8.toInt32)), (.int (y1.toInt8.toInt32)), (.int (y2.toInt8.toInt32)), (.int (y3.toInt8.toInt32)), (.int (y4.toInt8.toInt32)), (.int (y5.toInt8.toInt32)), (.int (y6.toInt8.toInt32)), (.int (y7.toInt8.toInt32)), (.int (y8.toInt8.toInt32)), (.int (y9.toInt8.toInt32)), (.int ((gapv j1 (2 : Int32)).toInt8.toInt32)), (.int ((gapv j1 (3 : Int32)).toInt8.toInt32)), (.int (x0.toInt8.toInt32)), (.int (x1.toInt8.toInt32)), (.int (x2.toInt8.toInt32)), (.int (x3.toInt8.toInt32)), (.int (x4.toInt8.toInt32)), (.int (x5.toInt8.toInt32)), (.int (x6.toInt8.toInt32)), (.int (x7.toInt8.toInt32)), (.int (x8.toInt8.toInt32)), (.int ((gapv j1 (4 : Int32)).toInt8.toInt32)), (.int ((gapv j1 (5 : Int32)).toInt8.toInt32))] kb_570 b_570 ev wt wp tt tp vbt vbp kbt kbp cs T570.heap n0 (own_le O571) O571 p1_S (hcs : ¬ (cs = (0 : Int32))) p3_S p4_S f573 f575 f576 f578 f579 f581 f582 f584 f585 f587 f588 f590 u570_1 u570_3 u570_2 u570_4 ((by rw [htq]; rfl) : [(.int ((gapv j1 (0 : Int32)).toInt8.toInt32)), (.int ((gapv j1 (1 : Int32)).toInt8.toInt32)), (.int (y0.toInt8.toInt32)), (.int (y1.toInt8.toInt32)), (.int (y2.toInt8.toInt32)), (.int (y3.toInt8.toInt32)), (.int (y4.toInt8.toInt32)), (.int (y5.toInt8.toInt32)), (.int (y6.toInt8.toInt32)), (.int (y7.toInt8.toInt32)), (.int (y8.toInt8.toInt32)), (.int (y9.toInt8.toInt32)), (.int ((gapv j1 (2 : Int32)).toInt8.toInt32)), (.int ((gapv j1 (3 : Int32)).toInt8.toInt32)), (.int (x0.toInt8.toInt32)), (.int (x1.toInt8.toInt32)), (.int (x2.toInt8.toInt32)), (.int (x3.toInt8.toInt32)), (.int (x4.toInt8.toInt32)), (.int (x5.toInt8.toInt32)), (.int (x6.toInt8.toInt32)), (.int (x7.toInt8.toInt32)), (.int (x8.toInt8.toInt32)), (.int ((gapv j1 (4 : Int32)).toInt8.toInt32)), (.int ((gapv j1 (5 : Int32)).toInt8.toInt32))] = tq.map Value.int) ((by rw [htq]; rfl) : tq.length = 25) rev (hrv572 : HRv tq wt wp ev)) hZ (hw _ (mg (i := 41) rfl)) (hw _ (mg (i := 40) rfl)) (by decide) (by decide)) (g := (mkF m 398 #[.val (.int i0), .val (.long j1), .second, .val (.int i3), .val (.int i4), .val (.ref b31), .val (.ref b60), .val (.int ti), .val (.int pi), .val (.ref b378), .val (.int 0), .val (.ref b60), .val (.ref b31), .val (.int 23), .val ev] [(.ref b566)])) rfl (by rw [hml]; rfl) (argsL := [(.ref b566)]) (rest := []) (lenOf pd_8 rfl) rfl (by show 2 * 0 + _ ≤ _; exact Nat.le_of_eq rfl) (hb hby at_398) (fun vmx hWx => ⟨rfl, rfl, (by decide : 5 + 0 ≤ _), (by decide : 73 + 0 ≤ _)⟩)
          dsimp only [Pt.U, Pt.locs, Pt.cells, Pt.slots] at X591 l591 y591 z591 st591 hQ591
          subst l591 y591 z591
          obtain ⟨rv591, Nq591, Kq591⟩ := hQ591
          subst rv591
          have N591 := Fr.app N570 Nq591
          obtain ⟨fs, hrL, hrun, hended, hW, hsame⟩ := X591.leave (v := some (.int 1)) (fun h => by rw [Bd.returns] at h; cases h)
          refine ⟨_, _, pre553 _ ?_, hrun, hended, _, _, rfl, ?_, ⟨_, rfl⟩, hW, hsame.mono (by decide) (by decide)⟩
          · show Steps p.tables e below (T553.setTop (mkF m 389 #[.val (.int i0), .val (.long j1), .second, .val (.int i3), .val (.int i4), .val (.ref b31), .val (.ref b60), .val (.int ti), .val (.int pi), .val (.ref b378), .val (.int 0), .val (.ref b60), .val (.ref b31), .val (.int 23), .val ev] [])) _
            refine st566 _ ?_
            refine XS.dup X566.here hx rfl (hb hby at_392) rfl rfl ?_
            refine XS.aload X566.here hx rfl (hb hby at_393) rfl rfl ?_
            show Steps p.tables e below (T566.setTop (mkF m 395 #[.val (.int i0), .val (.long j1), .second, .val (.int i3), .val (.int i4), .val (.ref b31), .val (.ref b60), .val (.int ti), .val (.int pi), .val (.ref b378), .val (.int 0), .val (.ref b60), .val (.ref b31), .val (.int 23), .val ev] [(.ref b378), (.ref b566), (.ref b566)])) _
            refine st570.trans ?_
            show Steps p.tables e below (T570.setTop (mkF m 398 #[.val (.int i0), .val (.long j1), .second, .val (.int i3), .val (.int i4), .val (.ref b31), .val (.ref b60), .val (.int ti), .val (.int pi), .val (.ref b378), .val (.int 0), .val (.ref b60), .val (.ref b31), .val (.int 23), .val ev] [(.ref b566)])) _
            refine st591 _ ?_
            refine XS.aload X591.here hx rfl (hb hby at_401) rfl rev ?_
            show Steps p.tables e below (T591.setTop (mkF m 403 #[.val (.int i0), .val (.long j1), .second, .val (.int i3), .val (.int i4), .val (.ref b31), .val (.ref b60), .val (.int ti), .val (.int pi), .val (.ref b378), .val (.int 0), .val (.ref b60), .val (.ref b31), .val (.int 23), .val ev] [ev, ev])) _
            refine Jvm.RoadKit.acmp (g := (mkF m 403 #[.val (.int i0), .val (.long j1), .second, .val (.int i3), .val (.int i4), .val (.ref b31), .val (.ref b60), .val (.int ti), .val (.int pi), .val (.ref b378), .val (.int 0), .val (.ref b60), .val (.ref b31), .val (.int 23), .val ev] [ev, ev])) X591 hx rfl rev rev (pc0 := 403) (pc' := 406) (same := true) rfl (hb hby at_403) rfl (decide_eq_true rfl) (by decide) (by decide) ?_
            show Steps p.tables e below (T591.setTop (mkF m 406 #[.val (.int i0), .val (.long j1), .second, .val (.int i3), .val (.int i4), .val (.ref b31), .val (.ref b60), .val (.int ti), .val (.int pi), .val (.ref b378), .val (.int 0), .val (.ref b60), .val (.ref b31), .val (.int 23), .val ev] [])) _
            refine XS.iconst X591.here hx rfl (hb hby at_406) ?_
            refine XS.goto X591.here hx rfl (pc0 := 407) (pc' := 411) rfl (hb hby at_407) (by decide) (by decide) ?_
            show Steps p.tables e below (T591.setTop (mkF m 411 #[.val (.int i0), .val (.long j1), .second, .val (.int i3), .val (.int i4), .val (.ref b31), .val (.ref b60), .val (.int ti), .val (.int pi), .val (.ref b378), .val (.int 0), .val (.ref b60), .val (.ref b31), .val (.int 23), .val ev] [(.int 1)])) _
            exact retN X591 hx (t := .boolean) Bd.returns (by simp) (hb hby at_411) hrL
          · show Q_rm0 _ _ _ _ _ _ _ _ _ _ _ _ _ _ _ _ _  T591.heap _
            rw [Kq591]
            exact ⟨rfl, N591, K571⟩
theorem own_len {args : Array Value} {s : State} {t : Term} {x : Addr} {c : Cell} {z : Int32} (ht : t.eval args s none [] s = some (.ref x)) (ha : s.arrayAt? x = some c) (h : (Term.length t).eval args s none [] s = some (.int z)) : c.slots.size < 2 ^ 31 ∧ c.slots.size.toInt32 = z := by
  simp only [Term.eval, ht, ha, Option.bind_eq_bind, Option.bind_some] at h
  split at h
  · exact ⟨by assumption, by simpa using h⟩
  · simp at h
theorem own_elem {args : Array Value} {s : State} {t : Term} {x : Addr} {c : Cell} {j : Int32} {v : Value} (ht : t.eval args s none [] s = some (.ref x)) (ha : s.arrayAt? x = some c) (hj : ¬ j < 0) (h : (Term.elem t (Term.int j)).eval args s none [] s = some v) : c.slots[j.toNatClampNeg]? = some v :=
  (elem_f ht rfl ha hj).symm.trans h
set_option maxRecDepth 65536 in
set_option maxHeartbeats 40000000 in
theorem comes_1 {Post : Tables → Env → Array Value → State → Outcome → State → Prop} (hpost : ∀ tb e args s v u, (limb_1_1.after args s (.returned v) u = true ∧ limb_1_2.after args s (.returned v) u = true ∧ True) → FrameEnd s (.returned v) u (Jvm.fieldLocs frame_1_writes args s ++ Jvm.arrayLocs frame_1_arrays args s ++ Jvm.staticLocs frame_1_statics s) 24 256 → Post tb e args s (.returned v) u) :
    ArmFor flags0 classFile x code maxLocals ret World_1 tables_1 room_1 Calls_1 rest_1 Pre_1 Post := by
  intro l hfl _ _ p e ha hc hk s m args below hf hA hF happ hP
  obtain ⟨hcalls, hrest, hpre⟩ := hP
  obtain ⟨-, -, -, hnamed, -, -, -, hat⟩ := (Spec.applies_iff hf).mp happ
  obtain ⟨hg, hn⟩ := and_e (Cond.before_iff.mp (show (Jvm.Cond.and given_1 narrow_1).before args s = true from hpre))
  obtain ⟨g1, g2⟩ := and_e hg
  obtain ⟨g3, g4⟩ := and_e g2
  obtain ⟨g5, g6⟩ := and_e g4
  obtain ⟨g7, g8⟩ := and_e g6
  obtain ⟨g9, g10⟩ := and_e hn
  obtain ⟨g11, g12⟩ := and_e g10
  obtain ⟨g13, g14⟩ := and_e g12
  obtain ⟨g15, g16⟩ := and_e g14
  obtain ⟨g17, g18⟩ := and_e g16
  obtain ⟨g19, g20⟩ := and_e g18
  obtain ⟨g21, g22⟩ := and_e g20
  obtain ⟨g23, g24⟩ := and_e g22
  obtain ⟨g25, g26⟩ := and_e g24
  obtain ⟨g27, g28⟩ := and_e g26
  obtain ⟨g29, g30⟩ := and_e g28
  obtain ⟨g31, g32⟩ := and_e g30
  obtain ⟨g33, g34⟩ := and_e g32
  obtain ⟨g35, g36⟩ := and_e g34
  obtain ⟨g37, g38⟩ := and_e g36
  obtain ⟨g39, g40⟩ := and_e g38
  obtain ⟨g41, g42⟩ := and_e g40
  obtain ⟨g43, g44⟩ := and_e g42
  obtain ⟨g45, g46⟩ := and_e g44
  obtain ⟨g47, g48⟩ := and_e g46
  obtain ⟨g49, g50⟩ := and_e g48
  obtain ⟨g51, g52⟩ := and_e g50
  obtain ⟨g53, g54⟩ := and_e g52
  obtain ⟨g55, g56⟩ := and_e g54
  obtain ⟨g57, g58⟩ := and_e g56
  obtain ⟨g59, g60⟩ := and_e g58
  obtain ⟨g61, g62⟩ := and_e g60
  obtain ⟨g63, g64⟩ := and_e g62
  obtain ⟨w0, w1, w2, w3, rfl⟩ : ∃ w0 w1 w2 w3 : Value, args = #[w0, w1, w2, w3] := by
    have hs : args.size = 4 := by simpa [Cond.value, given_1] using g1
    obtain ⟨L⟩ := args
    match L, hs with
    | [w0, w1, w2, w3], _ => exact ⟨w0, w1, w2, w3, rfl⟩
  have hw := fun d (hd : d ∈ tables_1) => atoms_spec (ws := Jvm.Cond.code x code maxLocals ret :: tables_1) hat d (List.mem_cons_of_mem _ hd)
  have hfit : Fit s := fun {y c} hc i hi => by
    obtain ⟨ha, rfl⟩ := Array.getElem?_eq_some_iff.mp hc
    have q := List.all_eq_true.mp ((Array.all_eq_true_iff_forall_mem.mp hF) _ (Array.getElem_mem ha)) i (List.mem_range.mpr hi)
    simpa [Array.getElem?_eq_getElem hi] using q
  obtain ⟨hsets, hown0⟩ := atoms_of _ (rest_1_c_eq ▸ (show rest_1_c.before _ s = true from hrest))
  have hr0 := Cond.before_iff.mp hown0
  obtain ⟨i0, ei0⟩ := is_v g3
  obtain rfl : w0 = (.int i0) := Option.some.inj ei0
  obtain ⟨i1, ei1⟩ := isL_v g5
  obtain rfl : w1 = (.long i1) := Option.some.inj ei1
  obtain ⟨i2, ei2⟩ := is_v g7
  obtain rfl : w2 = (.int i2) := Option.some.inj ei2
  obtain ⟨i3, ei3⟩ := is_v g8
  obtain rfl : w3 = (.int i3) := Option.some.inj ei3
  obtain ⟨wt, ev_wt⟩ := exa_v g9
  have E_wt : Exa s s.heap wt "com/example/ulinzi/ulinzi/model/OwnerName" := Exa.start ev_wt g9
  have S_wt : Sta s s.heap "com/example/ulinzi/ulinzi/model/OwnerName" "TENANT" "Lcom/example/ulinzi/ulinzi/model/OwnerName;" (.ref wt) := Sta.start ev_wt (Or.inr ⟨(hw _ (mg (i := 43) rfl)), (hw _ (mg (i := 44) rfl))⟩)
  obtain ⟨tt, ev_tt⟩ := exa_v g11
  have E_tt : Exa s s.heap tt "java/lang/String" := Exa.start ev_tt g11
  have F_tt : Fld s s.heap wt "com/example/ulinzi/ulinzi/model/OwnerName" "text" "Ljava/lang/String;" (.ref tt) := Fld.start ((fld_at ev_wt).symm.trans ev_tt)
  have C_tt : Fld s s.heap tt "java/lang/String" "coder" "B" (.int (0 : Int32)) := Fld.start ((fld_at ev_tt).symm.trans (own_eqi g13))
  obtain ⟨vbt, ev_vbt⟩ := arr_v g15
  have V_tt : Fld s s.heap tt "java/lang/String" "value" "[B" (.ref vbt) := Fld.start ((fld_at ev_tt).symm.trans ev_vbt)
  obtain ⟨cl_vbt, Ar_vbt⟩ := Arr.start ev_vbt g15
  have fin_vbt := Ar_vbt.fin (Vm.Alike.refl _)
  obtain ⟨hs_vbt, hl_vbt⟩ := own_len ev_vbt fin_vbt (own_eqi g17)
  have A_vbt : Arv s s.heap vbt cl_vbt.cls .byte (9 : Int32) [(.int (116 : Int32)), (.int (101 : Int32)), (.int (110 : Int32)), (.int (97 : Int32)), (.int (110 : Int32)), (.int (116 : Int32)), (.int (95 : Int32)), (.int (105 : Int32)), (.int (100 : Int32))] (.int (0 : Int32)) := Arv.start hfit Ar_vbt hs_vbt hl_vbt (by decide) (by decide) ⟨own_elem ev_vbt fin_vbt (j := (0 : Int32)) (by decide) (own_eqi g29), own_elem ev_vbt fin_vbt (j := (1 : Int32)) (by decide) (own_eqi g31), own_elem ev_vbt fin_vbt (j := (2 : Int32)) (by decide) (own_eqi g33), own_elem ev_vbt fin_vbt (j := (3 : Int32)) (by decide) (own_eqi g35), own_elem ev_vbt fin_vbt (j := (4 : Int32)) (by decide) (own_eqi g37), own_elem ev_vbt fin_vbt (j := (5 : Int32)) (by decide) (own_eqi g39), own_elem ev_vbt fin_vbt (j := (6 : Int32)) (by decide) (own_eqi g41), own_elem ev_vbt fin_vbt (j := (7 : Int32)) (by decide) (own_eqi g43), own_elem ev_vbt fin_vbt (j := (8 : Int32)) (by decide) (own_eqi g45), trivial⟩
  obtain ⟨wp, ev_wp⟩ := exa_v g19
  have E_wp : Exa s s.heap wp "com/example/ulinzi/ulinzi/model/OwnerName" := Exa.start ev_wp g19
  have S_wp : Sta s s.heap "com/example/ulinzi/ulinzi/model/OwnerName" "PROJECT" "Lcom/example/ulinzi/ulinzi/model/OwnerName;" (.ref wp) := Sta.start ev_wp (Or.inr ⟨(hw _ (mg (i := 43) rfl)), (hw _ (mg (i := 89) rfl))⟩)
  obtain ⟨tp, ev_tp⟩ := exa_v g21
  have E_tp : Exa s s.heap tp "java/lang/String" := Exa.start ev_tp g21
  have F_tp : Fld s s.heap wp "com/example/ulinzi/ulinzi/model/OwnerName" "text" "Ljava/lang/String;" (.ref tp) := Fld.start ((fld_at ev_wp).symm.trans ev_tp)
  have C_tp : Fld s s.heap tp "java/lang/String" "coder" "B" (.int (0 : Int32)) := Fld.start ((fld_at ev_tp).symm.trans (own_eqi g23))
  obtain ⟨vbp, ev_vbp⟩ := arr_v g25
  have V_tp : Fld s s.heap tp "java/lang/String" "value" "[B" (.ref vbp) := Fld.start ((fld_at ev_tp).symm.trans ev_vbp)
  obtain ⟨cl_vbp, Ar_vbp⟩ := Arr.start ev_vbp g25
  have fin_vbp := Ar_vbp.fin (Vm.Alike.refl _)
  obtain ⟨hs_vbp, hl_vbp⟩ := own_len ev_vbp fin_vbp (own_eqi g27)
  have A_vbp : Arv s s.heap vbp cl_vbp.cls .byte (10 : Int32) [(.int (112 : Int32)), (.int (114 : Int32)), (.int (111 : Int32)), (.int (106 : Int32)), (.int (101 : Int32)), (.int (99 : Int32)), (.int (116 : Int32)), (.int (95 : Int32)), (.int (105 : Int32)), (.int (100 : Int32))] (.int (0 : Int32)) := Arv.start hfit Ar_vbp hs_vbp hl_vbp (by decide) (by decide) ⟨own_elem ev_vbp fin_vbp (j := (0 : Int32)) (by decide) (own_eqi g47), own_elem ev_vbp fin_vbp (j := (1 : Int32)) (by decide) (own_eqi g49), own_elem ev_vbp fin_vbp (j := (2 : Int32)) (by decide) (own_eqi g51), own_elem ev_vbp fin_vbp (j := (3 : Int32)) (by decide) (own_eqi g53), own_elem ev_vbp fin_vbp (j := (4 : Int32)) (by decide) (own_eqi g55), own_elem ev_vbp fin_vbp (j := (5 : Int32)) (by decide) (own_eqi g57), own_elem ev_vbp fin_vbp (j := (6 : Int32)) (by decide) (own_eqi g59), own_elem ev_vbp fin_vbp (j := (7 : Int32)) (by decide) (own_eqi g61), own_elem ev_vbp fin_vbp (j := (8 : Int32)) (by decide) (own_eqi g63), own_elem ev_vbp fin_vbp (j := (9 : Int32)) (by decide) (own_eqi g64), trivial⟩
  obtain ⟨cs, ecs⟩ := is_v (Cond.before_iff.mp (hsets _ (List.mem_of_getElem? (i := 1) rfl)))
  have Scs : Sta s s.heap "java/lang/String" "COMPACT_STRINGS" "Z" (.int cs) := Sta.start ecs (Or.inl (hsets _ (List.mem_of_getElem? (i := 0) rfl)))
  have hcs : ¬ (cs = (0 : Int32)) := gotF (Cond.eq_ints ecs (Term.int_eval (0))) (not_v (Cond.before_iff.mp (hsets _ (List.mem_of_getElem? (i := 2) rfl))))
  obtain ⟨n, o, h1, h2, h3, _, L, rfl, ⟨rfl, N, -⟩, hq⟩ := rm0 l s _ hw tables_1 i0 i1 i2 i3 wt wp tt tp vbt vbp _ _ cs s.heap s.heap.size (Nat.le_refl _) (Old.start s) Scs hcs S_wt S_wp E_wt F_tt E_tt C_tt V_tt A_vbt E_wp F_tp E_tp C_tp V_tp A_vbp E_wt.lt E_wp.lt E_tt.lt E_tp.lt A_vbt.lt A_vbp.lt p e ha hc hk s m _ below hf ((Spec.applies_iff_loose hf).mp happ).1 ⟨rfl, State.Warmed39.refl s, rfl⟩ trivial
  refine ⟨n, _, h1, h2, h3, hpost _ _ _ _ _ _ ⟨Cond.after_iff.mpr rfl, Cond.after_iff.mpr (eq_i res_at (Term.int_eval (1)) rfl), trivial⟩ ⟨hq.1, hq.2.1, (hq.2.2.sift fun y hy => Or.inr (N y hy)).mono (by decide) (by decide)⟩⟩
theorem main_1_1 : Claimed_1_1 := comes_1 fun _ _ _ _ _ _ h hF => ⟨h.1, hF⟩
theorem main_1_2 : Claimed_1_2 := comes_1 fun _ _ _ _ _ _ h hF => ⟨h.2.1, hF⟩
end Jvm.Pilot.@@N@@
namespace Jvm.Pilot.@@N@@
open Jvm Jvm.ClassFile Sem Op Lib Jvm.Free Jvm.Stand Jvm.Pilot.@@N@@.Jvm.D
/-! MADE BY PROGRAM (witnessworld.py) out of the Statement's table words and the real class files: 22 classes; the members and pool entries that the words name. The judged class is class 1, her method 1. -/
namespace start1
open Jvm.ClassFile
def u (s : String) : CpInfo := .utf8 (stringToUtf16 s)
/-- a pool by its gaps: so many unusable entries, then the entry; so many at the end -/
def gap : Nat → List CpInfo → List CpInfo
  | 0, r => r
  | n + 1, r => .unusable :: gap n r
def poolList (es : List (Nat × CpInfo)) (last : Nat) : List CpInfo := es.foldr (fun e r => gap e.1 (e.2 :: r)) (gap last [])
def pool (es : List (Nat × CpInfo)) (last : Nat) : Array CpInfo := ⟨poolList es last⟩
def fileOf (pool : Array CpInfo) (this : Nat) (attrs : Array Attribute := #[]) (ms : Array MethodInfo := #[]) (fl : Nat := 33) (sup : Nat := 0) (ifs : Array Nat := #[]) (fds : Array FieldInfo := #[]) : ClassFile where
  minorVersion := 0
  majorVersion := 65
  constantPool := pool
  accessFlags := fl
  thisClass := this
  superClass := sup
  interfaces := ifs
  fields := fds
  methods := ms
  attributes := attrs
def plain (name : String) (sup : Option ClassId) : Class where
  name := name
  kind := .ordinary
  loader := none
  accessFlags := 33
  super := sup
  interfaces := #[]
  cf := none
  fields := #[]
  methods := #[]
  instanceTypes := #[]
  staticTypes := #[]
  resolved := #[]
  callSites := []
  init := .initialized
  statics := none
  mirror := none

def pool0 : Array CpInfo := pool [(5, u "<init>"), (0, u "()V"), (1, .class_ 10), (1, u "java/lang/Object")] 113

def k0c0 : Code := { maxStack := 0, maxLocals := 1, code := object_method_1_code, exceptionTable := #[], attributes := #[] }
def k0m0 : Method := { name := "<init>", desc := "()V", sig := { parameters := [], returnType := none }, accessFlags := 1, code := some k0c0 }
/-- java/lang/Object -/
def k0 : Class := { plain "java/lang/Object" none with
  accessFlags := 33
  interfaces := #[]
  cf := some (fileOf pool0 8 #[] #[{ accessFlags := 1, nameIndex := 5, descriptorIndex := 6, attributes := #[] }] 33 0 #[] #[])
  fields := #[]
  methods := #[k0m0]
  instanceTypes := #[]
  staticTypes := #[]
  resolved := Array.replicate 124 none
  statics := none }

def pool1 : Array CpInfo := pool [(2, .class_ 4), (1, u "java/lang/Object"), (0, u "<init>"), (0, u "()V"), (0, .methodref 8 9), (0, .class_ 10), (0, .nameAndType 11 12), (0, u "com/example/ulinzi/ulinzi/model/OwnerFilterWrittenInPinLaw"), (0, u "gap"), (0, u "(JI)C"), (0, .methodref 8 14), (0, .nameAndType 15 16), (0, u "place"), (0, u "([CI[C)I"), (0, .fieldref 18 19), (0, .class_ 20), (0, .nameAndType 21 22), (0, u "com/example/ulinzi/ulinzi/model/OwnerName"), (0, u "TENANT"), (0, u "Lcom/example/ulinzi/ulinzi/model/OwnerName;"), (0, .fieldref 18 24), (0, .nameAndType 25 22), (0, u "PROJECT"), (0, .class_ 27), (0, u "java/lang/String"), (0, .methodref 26 29), (0, .nameAndType 5 30), (0, u "([C)V"), (0, .methodref 32 33), (0, .class_ 34), (0, .nameAndType 35 36), (0, u "com/example/ulinzi/ulinzi/model/OwnerFilter"), (0, u "writtenIn"), (0, u "(Ljava/lang/String;)Lcom/example/ulinzi/ulinzi/model/OwnerName;"), (0, .long 255), (3, u "law"), (0, u "(IJII)Z")] 5

def k1m0 : Method := { name := "<init>", desc := "()V", sig := { parameters := [], returnType := none }, accessFlags := 2, code := none }
def k1c1 : Code := { maxStack := 5, maxLocals := 15, code := code, exceptionTable := #[], attributes := #[] }
def k1m1 : Method := { name := "law", desc := "(IJII)Z", sig := { parameters := [.int, .long, .int, .int], returnType := some .boolean }, accessFlags := 9, code := some k1c1 }
def k1c2 : Code := { maxStack := 4, maxLocals := 3, code := method_3_code, exceptionTable := #[], attributes := #[] }
def k1m2 : Method := { name := "gap", desc := "(JI)C", sig := { parameters := [.long, .int], returnType := some .char }, accessFlags := 10, code := some k1c2 }
def k1c3 : Code := { maxStack := 4, maxLocals := 3, code := method_4_code, exceptionTable := #[], attributes := #[] }
def k1m3 : Method := { name := "place", desc := "([CI[C)I", sig := { parameters := [(.array .char), .int, (.array .char)], returnType := some .int }, accessFlags := 10, code := some k1c3 }
/-- com/example/ulinzi/ulinzi/model/OwnerFilterWrittenInPinLaw -/
def k1 : Class := { plain "com/example/ulinzi/ulinzi/model/OwnerFilterWrittenInPinLaw" (some 0) with
  accessFlags := 49
  interfaces := #[]
  cf := some (fileOf pool1 8 #[] #[{ accessFlags := 2, nameIndex := 5, descriptorIndex := 6, attributes := #[] }, { accessFlags := 9, nameIndex := 41, descriptorIndex := 42, attributes := #[] }, { accessFlags := 10, nameIndex := 11, descriptorIndex := 12, attributes := #[] }, { accessFlags := 10, nameIndex := 15, descriptorIndex := 16, attributes := #[] }] 49 2 #[] #[])
  fields := #[]
  methods := #[k1m0, k1m1, k1m2, k1m3]
  instanceTypes := #[]
  staticTypes := #[]
  resolved := Array.replicate 48 none
  statics := none }

def pool2 : Array CpInfo := pool [(1, .class_ 2), (0, u "java/io/Serializable"), (0, .class_ 4), (0, u "java/lang/Object")] 2

/-- java/io/Serializable -/
def k2 : Class := { plain "java/io/Serializable" (some 0) with
  accessFlags := 1537
  interfaces := #[]
  cf := some (fileOf pool2 1 #[] #[] 1537 3 #[] #[])
  fields := #[]
  methods := #[]
  instanceTypes := #[]
  staticTypes := #[]
  resolved := Array.replicate 7 none
  statics := none }

def pool3 : Array CpInfo := pool [(1, .class_ 2), (0, u "java/lang/Comparable"), (0, .class_ 4), (0, u "java/lang/Object")] 7

/-- java/lang/Comparable -/
def k3 : Class := { plain "java/lang/Comparable" (some 0) with
  accessFlags := 1537
  interfaces := #[]
  cf := some (fileOf pool3 1 #[] #[] 1537 3 #[] #[])
  fields := #[]
  methods := #[]
  instanceTypes := #[]
  staticTypes := #[]
  resolved := Array.replicate 12 none
  statics := none }

def pool4 : Array CpInfo := pool [(2, .class_ 4), (1, u "java/lang/CharSequence"), (42, .class_ 48), (0, u "java/lang/CharSequence$1CodePointIterator"), (10, .class_ 60), (0, u "java/lang/CharSequence$1CharIterator"), (5, .class_ 67), (0, u "java/lang/Object"), (10, u "toString"), (0, u "()Ljava/lang/String;")] 51

def k4m0 : Method := { name := "toString", desc := "()Ljava/lang/String;", sig := { parameters := [], returnType := some (.object "java/lang/String") }, accessFlags := 1025, code := none }
/-- java/lang/CharSequence -/
def k4 : Class := { plain "java/lang/CharSequence" (some 0) with
  accessFlags := 1537
  interfaces := #[]
  cf := some (fileOf pool4 2 #[.nestMembers #[47, 59]] #[{ accessFlags := 1025, nameIndex := 78, descriptorIndex := 79, attributes := #[] }] 1537 66 #[] #[])
  fields := #[]
  methods := #[k4m0]
  instanceTypes := #[]
  staticTypes := #[]
  resolved := Array.replicate 131 none
  statics := none }

def pool5 : Array CpInfo := pool [(1, .class_ 2), (0, u "java/lang/constant/Constable"), (0, .class_ 4), (0, u "java/lang/Object")] 6

/-- java/lang/constant/Constable -/
def k5 : Class := { plain "java/lang/constant/Constable" (some 0) with
  accessFlags := 1537
  interfaces := #[]
  cf := some (fileOf pool5 1 #[] #[] 1537 3 #[] #[])
  fields := #[]
  methods := #[]
  instanceTypes := #[]
  staticTypes := #[]
  resolved := Array.replicate 11 none
  statics := none }

def pool6 : Array CpInfo := pool [(1, .class_ 2), (0, u "java/lang/constant/ConstantDesc"), (0, .class_ 4), (0, u "java/lang/Object")] 32

/-- java/lang/constant/ConstantDesc -/
def k6 : Class := { plain "java/lang/constant/ConstantDesc" (some 0) with
  accessFlags := 1537
  interfaces := #[]
  cf := some (fileOf pool6 1 #[] #[] 1537 3 #[] #[])
  fields := #[]
  methods := #[]
  instanceTypes := #[]
  staticTypes := #[]
  resolved := Array.replicate 37 none
  statics := none }

def pool7 : Array CpInfo := pool [(1, .methodref 2 3), (0, .class_ 4), (0, .nameAndType 5 6), (0, u "java/lang/Object"), (0, u "<init>"), (0, u "()V"), (2, .fieldref 10 11), (0, .class_ 12), (0, .nameAndType 13 14), (0, u "java/lang/String"), (0, u "value"), (0, u "[B"), (0, .fieldref 10 16), (0, .nameAndType 17 18), (0, u "coder"), (0, u "B"), (2, u "hash"), (0, u "I"), (2, u "hashIsZero"), (0, u "Z"), (0, .methodref 10 28), (0, .nameAndType 5 29), (0, u "([CIILjava/lang/Void;)V"), (8, .fieldref 10 39), (0, .nameAndType 40 26), (0, u "COMPACT_STRINGS"), (1, .class_ 44), (1, u "java/lang/StringUTF16"), (0, u "compress"), (1, .methodref 42 48), (0, .nameAndType 49 50), (0, u "coderFromArrayLen"), (0, u "([BI)B"), (56, .class_ 109), (1, u "java/lang/StringLatin1"), (32, u "()Z"), (34, .methodref 42 178), (0, .nameAndType 45 179), (0, u "([CII)[B"), (155, .methodref 10 336), (0, .nameAndType 17 337), (0, u "()B"), (124, .nameAndType 463 464), (0, u "toString"), (0, u "()Ljava/lang/String;"), (27, .methodref 10 493), (0, .nameAndType 494 142), (0, u "isLatin1"), (53, u "(Ljava/lang/CharSequence;)Z"), (26, .class_ 576), (0, u "java/lang/CharSequence"), (12, u "([B[B)I"), (9, u "CASE_INSENSITIVE_ORDER"), (0, u "Ljava/util/Comparator;"), (34, u "indexOf"), (11, .methodref 107 648), (0, .nameAndType 635 589), (61, .interfaceMethodref 575 462), (0, .methodref 10 712), (0, .nameAndType 635 713), (0, u "(Ljava/lang/String;)I"), (296, u "([C)V"), (90, u "serialPersistentFields"), (0, u "[Ljava/io/ObjectStreamField;"), (0, .class_ 1104), (0, u "java/lang/String$CaseInsensitiveComparator"), (1, .class_ 1107), (0, u "java/io/Serializable"), (0, .class_ 1109), (0, u "java/lang/Comparable"), (0, .class_ 1111), (0, u "java/lang/constant/Constable"), (0, .class_ 1113), (0, u "java/lang/constant/ConstantDesc"), (2, u "serialVersionUID"), (0, u "J"), (3, u "REPL"), (0, u "C"), (2, u "LATIN1"), (1, u "UTF16"), (163, u "contains")] 159

def k7m0 : Method := { name := "<init>", desc := "()V", sig := { parameters := [], returnType := none }, accessFlags := 1, code := none }
def k7c1 : Code := { maxStack := 5, maxLocals := 2, code := jdk_42_method_3_code, exceptionTable := #[], attributes := #[] }
def k7m1 : Method := { name := "<init>", desc := "([C)V", sig := { parameters := [(.array .char)], returnType := none }, accessFlags := 1, code := some k7c1 }
def k7c2 : Code := { maxStack := 2, maxLocals := 3, code := jdk_42_method_84_code, exceptionTable := #[], attributes := #[] }
def k7m2 : Method := { name := "indexOf", desc := "(Ljava/lang/String;)I", sig := { parameters := [(.object "java/lang/String")], returnType := some .int }, accessFlags := 1, code := some k7c2 }
def k7c3 : Code := { maxStack := 2, maxLocals := 2, code := jdk_42_method_97_code, exceptionTable := #[], attributes := #[] }
def k7m3 : Method := { name := "contains", desc := "(Ljava/lang/CharSequence;)Z", sig := { parameters := [(.object "java/lang/CharSequence")], returnType := some .boolean }, accessFlags := 1, code := some k7c3 }
def k7c4 : Code := { maxStack := 1, maxLocals := 1, code := jdk_42_method_126_code, exceptionTable := #[], attributes := #[] }
def k7m4 : Method := { name := "toString", desc := "()Ljava/lang/String;", sig := { parameters := [], returnType := some (.object "java/lang/String") }, accessFlags := 1, code := some k7c4 }
def k7c5 : Code := { maxStack := 4, maxLocals := 6, code := jdk_42_method_149_code, exceptionTable := #[], attributes := #[] }
def k7m5 : Method := { name := "<init>", desc := "([CIILjava/lang/Void;)V", sig := { parameters := [(.array .char), .int, .int, (.object "java/lang/Void")], returnType := none }, accessFlags := 2, code := some k7c5 }
def k7c6 : Code := { maxStack := 1, maxLocals := 1, code := jdk_42_method_152_code, exceptionTable := #[], attributes := #[] }
def k7m6 : Method := { name := "coder", desc := "()B", sig := { parameters := [], returnType := some .byte }, accessFlags := 0, code := some k7c6 }
def k7c7 : Code := { maxStack := 1, maxLocals := 1, code := jdk_42_method_154_code, exceptionTable := #[], attributes := #[] }
def k7m7 : Method := { name := "isLatin1", desc := "()Z", sig := { parameters := [], returnType := some .boolean }, accessFlags := 0, code := some k7c7 }
/-- java/lang/String -/
def k7 : Class := { plain "java/lang/String" (some 0) with
  accessFlags := 49
  interfaces := #[2, 3, 4, 5, 6]
  cf := some (fileOf pool7 10 #[.nestMembers #[1103]] #[{ accessFlags := 1, nameIndex := 5, descriptorIndex := 6, attributes := #[] }, { accessFlags := 1, nameIndex := 5, descriptorIndex := 1010, attributes := #[] }, { accessFlags := 1, nameIndex := 635, descriptorIndex := 713, attributes := #[] }, { accessFlags := 1, nameIndex := 1291, descriptorIndex := 548, attributes := #[] }, { accessFlags := 1, nameIndex := 463, descriptorIndex := 464, attributes := #[] }, { accessFlags := 2, nameIndex := 5, descriptorIndex := 29, attributes := #[] }, { accessFlags := 0, nameIndex := 17, descriptorIndex := 337, attributes := #[] }, { accessFlags := 0, nameIndex := 494, descriptorIndex := 142, attributes := #[] }] 49 2 #[1106, 1108, 575, 1110, 1112] #[{ accessFlags := 18, nameIndex := 13, descriptorIndex := 14, attributes := #[] }, { accessFlags := 18, nameIndex := 17, descriptorIndex := 18, attributes := #[] }, { accessFlags := 2, nameIndex := 21, descriptorIndex := 22, attributes := #[] }, { accessFlags := 2, nameIndex := 25, descriptorIndex := 26, attributes := #[] }, { accessFlags := 26, nameIndex := 1116, descriptorIndex := 1117, attributes := #[] }, { accessFlags := 24, nameIndex := 40, descriptorIndex := 26, attributes := #[] }, { accessFlags := 26, nameIndex := 1101, descriptorIndex := 1102, attributes := #[] }, { accessFlags := 26, nameIndex := 1121, descriptorIndex := 1122, attributes := #[] }, { accessFlags := 25, nameIndex := 599, descriptorIndex := 600, attributes := #[] }, { accessFlags := 24, nameIndex := 1125, descriptorIndex := 18, attributes := #[] }, { accessFlags := 24, nameIndex := 1127, descriptorIndex := 18, attributes := #[] }])
  fields := #[{ name := "value", type := (.array .byte), accessFlags := 18, slot := 0, constantValue := 0 }, { name := "coder", type := .byte, accessFlags := 18, slot := 1, constantValue := 0 }, { name := "hash", type := .int, accessFlags := 2, slot := 2, constantValue := 0 }, { name := "hashIsZero", type := .boolean, accessFlags := 2, slot := 3, constantValue := 0 }, { name := "serialVersionUID", type := .long, accessFlags := 26, slot := 0, constantValue := 0 }, { name := "COMPACT_STRINGS", type := .boolean, accessFlags := 24, slot := 1, constantValue := 0 }, { name := "serialPersistentFields", type := (.array (.object "java/io/ObjectStreamField")), accessFlags := 26, slot := 2, constantValue := 0 }, { name := "REPL", type := .char, accessFlags := 26, slot := 3, constantValue := 0 }, { name := "CASE_INSENSITIVE_ORDER", type := (.object "java/util/Comparator"), accessFlags := 25, slot := 4, constantValue := 0 }, { name := "LATIN1", type := .byte, accessFlags := 24, slot := 5, constantValue := 0 }, { name := "UTF16", type := .byte, accessFlags := 24, slot := 6, constantValue := 0 }]
  methods := #[k7m0, k7m1, k7m2, k7m3, k7m4, k7m5, k7m6, k7m7]
  instanceTypes := #[(.array .byte), .byte, .int, .boolean]
  staticTypes := #[.long, .boolean, (.array (.object "java/io/ObjectStreamField")), .char, (.object "java/util/Comparator"), .byte, .byte]
  resolved := Array.replicate 1451 none
  statics := some 0 }

def pool8 : Array CpInfo := pool [(6, .class_ 8), (1, u "java/lang/Object"), (0, u "<init>"), (0, u "()V"), (1, .class_ 14), (1, u "java/lang/StringUTF16"), (31, u "$assertionsDisabled"), (0, u "Z"), (13, u "HI_BYTE_SHIFT"), (0, u "I"), (2, u "LO_BYTE_SHIFT"), (49, .methodref 12 116), (0, .nameAndType 117 118), (0, u "compress"), (0, u "([CI[BII)I"), (3, u "([CII)[B"), (138, u "coderFromArrayLen"), (0, u "([BI)B"), (106, .class_ 371), (1, u "java/lang/StringUTF16$LinesSpliterator"), (58, u "MAX_LENGTH"), (196, .class_ 628), (0, u "java/lang/StringUTF16$CodePointsSpliterator"), (0, .class_ 630), (0, u "java/lang/StringUTF16$CharsSpliterator")] 4

def k8m0 : Method := { name := "<init>", desc := "()V", sig := { parameters := [], returnType := none }, accessFlags := 0, code := none }
def k8c1 : Code := { maxStack := 2, maxLocals := 2, code := jdk_52_method_15_code, exceptionTable := #[], attributes := #[] }
def k8m1 : Method := { name := "coderFromArrayLen", desc := "([BI)B", sig := { parameters := [(.array .byte), .int], returnType := some .byte }, accessFlags := 8, code := some k8c1 }
def k8c2 : Code := { maxStack := 5, maxLocals := 6, code := jdk_52_method_16_code, exceptionTable := #[], attributes := #[] }
def k8m2 : Method := { name := "compress", desc := "([CII)[B", sig := { parameters := [(.array .char), .int, .int], returnType := some (.array .byte) }, accessFlags := 9, code := some k8c2 }
def k8c3 : Code := { maxStack := 3, maxLocals := 7, code := jdk_52_method_21_code, exceptionTable := #[], attributes := #[] }
def k8m3 : Method := { name := "compress", desc := "([CI[BII)I", sig := { parameters := [(.array .char), .int, (.array .byte), .int, .int], returnType := some .int }, accessFlags := 9, code := some k8c3 }
/-- java/lang/StringUTF16 -/
def k8 : Class := { plain "java/lang/StringUTF16" (some 0) with
  accessFlags := 48
  interfaces := #[]
  cf := some (fileOf pool8 12 #[.nestMembers #[627, 629, 369]] #[{ accessFlags := 0, nameIndex := 9, descriptorIndex := 10, attributes := #[] }, { accessFlags := 8, nameIndex := 261, descriptorIndex := 262, attributes := #[] }, { accessFlags := 9, nameIndex := 117, descriptorIndex := 122, attributes := #[] }, { accessFlags := 9, nameIndex := 117, descriptorIndex := 118, attributes := #[] }] 48 6 #[] #[{ accessFlags := 26, nameIndex := 61, descriptorIndex := 62, attributes := #[] }, { accessFlags := 26, nameIndex := 65, descriptorIndex := 62, attributes := #[] }, { accessFlags := 24, nameIndex := 430, descriptorIndex := 62, attributes := #[] }, { accessFlags := 4120, nameIndex := 46, descriptorIndex := 47, attributes := #[] }])
  fields := #[{ name := "HI_BYTE_SHIFT", type := .int, accessFlags := 26, slot := 0, constantValue := 0 }, { name := "LO_BYTE_SHIFT", type := .int, accessFlags := 26, slot := 1, constantValue := 0 }, { name := "MAX_LENGTH", type := .int, accessFlags := 24, slot := 2, constantValue := 0 }, { name := "$assertionsDisabled", type := .boolean, accessFlags := 4120, slot := 3, constantValue := 0 }]
  methods := #[k8m0, k8m1, k8m2, k8m3]
  instanceTypes := #[]
  staticTypes := #[.int, .int, .int, .boolean]
  resolved := Array.replicate 635 none
  statics := none }

def pool9 : Array CpInfo := pool [(2, .class_ 4), (1, u "java/lang/Object"), (0, u "<init>"), (0, u "()V"), (1, .class_ 10), (1, u "com/example/ulinzi/ulinzi/model/OwnerName"), (2, .methodref 8 14), (0, .nameAndType 15 16), (0, u "text"), (0, u "()Ljava/lang/String;"), (1, .class_ 20), (1, u "java/lang/String"), (7, .class_ 30), (1, u "com/example/ulinzi/ulinzi/model/OwnerFilter"), (20, .fieldref 8 52), (0, .nameAndType 53 54), (0, u "TENANT"), (0, u "Lcom/example/ulinzi/ulinzi/model/OwnerName;"), (8, .fieldref 8 64), (0, .nameAndType 65 54), (0, u "PROJECT"), (2, u "COMPARED"), (0, .methodref 18 70), (0, .nameAndType 71 72), (0, u "contains"), (0, u "(Ljava/lang/CharSequence;)Z"), (11, u "writtenIn"), (0, u "(Ljava/lang/String;)Lcom/example/ulinzi/ulinzi/model/OwnerName;")] 3

def k9m0 : Method := { name := "<init>", desc := "()V", sig := { parameters := [], returnType := none }, accessFlags := 2, code := none }
def k9c1 : Code := { maxStack := 2, maxLocals := 4, code := prog_21_method_5_code, exceptionTable := #[], attributes := #[] }
def k9m1 : Method := { name := "writtenIn", desc := "(Ljava/lang/String;)Lcom/example/ulinzi/ulinzi/model/OwnerName;", sig := { parameters := [(.object "java/lang/String")], returnType := some (.object "com/example/ulinzi/ulinzi/model/OwnerName") }, accessFlags := 9, code := some k9c1 }
/-- com/example/ulinzi/ulinzi/model/OwnerFilter -/
def k9 : Class := { plain "com/example/ulinzi/ulinzi/model/OwnerFilter" (some 0) with
  accessFlags := 49
  interfaces := #[]
  cf := some (fileOf pool9 28 #[] #[{ accessFlags := 2, nameIndex := 5, descriptorIndex := 6, attributes := #[] }, { accessFlags := 9, nameIndex := 84, descriptorIndex := 85, attributes := #[] }] 49 2 #[] #[{ accessFlags := 25, nameIndex := 68, descriptorIndex := 54, attributes := #[] }])
  fields := #[{ name := "COMPARED", type := (.object "com/example/ulinzi/ulinzi/model/OwnerName"), accessFlags := 25, slot := 0, constantValue := 0 }]
  methods := #[k9m0, k9m1]
  instanceTypes := #[]
  staticTypes := #[(.object "com/example/ulinzi/ulinzi/model/OwnerName")]
  resolved := Array.replicate 89 none
  statics := none }

def pool10 : Array CpInfo := pool [(2, .class_ 4), (1, u "java/lang/Enum"), (0, u "name"), (0, u "Ljava/lang/String;"), (2, u "ordinal"), (0, u "I"), (1, .class_ 14), (1, u "java/lang/Object"), (4, u "hash"), (86, .class_ 108), (1, u "java/lang/Enum$EnumDesc"), (2, .class_ 112), (0, u "java/lang/constant/Constable"), (0, .class_ 114), (0, u "java/lang/Comparable"), (0, .class_ 116), (0, u "java/io/Serializable")] 87

/-- java/lang/Enum -/
def k10 : Class := { plain "java/lang/Enum" (some 0) with
  accessFlags := 1057
  interfaces := #[5, 3, 2]
  cf := some (fileOf pool10 2 #[.nestMembers #[106]] #[] 1057 12 #[111, 113, 115] #[{ accessFlags := 18, nameIndex := 5, descriptorIndex := 6, attributes := #[] }, { accessFlags := 18, nameIndex := 9, descriptorIndex := 10, attributes := #[] }, { accessFlags := 2, nameIndex := 19, descriptorIndex := 10, attributes := #[] }])
  fields := #[{ name := "name", type := (.object "java/lang/String"), accessFlags := 18, slot := 0, constantValue := 0 }, { name := "ordinal", type := .int, accessFlags := 18, slot := 1, constantValue := 0 }, { name := "hash", type := .int, accessFlags := 2, slot := 2, constantValue := 0 }]
  methods := #[]
  instanceTypes := #[(.object "java/lang/String"), .int, .int]
  staticTypes := #[]
  resolved := Array.replicate 204 none
  statics := none }

def pool11 : Array CpInfo := pool [(1, .class_ 2), (0, u "com/example/ulinzi/ulinzi/model/OwnerName"), (2, u "TENANT"), (0, u "Lcom/example/ulinzi/ulinzi/model/OwnerName;"), (2, u "PROJECT"), (2, u "$VALUES"), (0, u "[Lcom/example/ulinzi/ulinzi/model/OwnerName;"), (6, .class_ 22), (1, u "java/lang/Enum"), (6, .fieldref 1 30), (0, .nameAndType 31 32), (0, u "text"), (0, u "Ljava/lang/String;"), (20, u "()Ljava/lang/String;")] 8

def k11c0 : Code := { maxStack := 1, maxLocals := 1, code := prog_23_method_4_code, exceptionTable := #[], attributes := #[] }
def k11m0 : Method := { name := "text", desc := "()Ljava/lang/String;", sig := { parameters := [], returnType := some (.object "java/lang/String") }, accessFlags := 1, code := some k11c0 }
/-- com/example/ulinzi/ulinzi/model/OwnerName -/
def k11 : Class := { plain "com/example/ulinzi/ulinzi/model/OwnerName" (some 10) with
  accessFlags := 16433
  interfaces := #[]
  cf := some (fileOf pool11 1 #[] #[{ accessFlags := 1, nameIndex := 31, descriptorIndex := 53, attributes := #[] }] 16433 20 #[] #[{ accessFlags := 16409, nameIndex := 5, descriptorIndex := 6, attributes := #[] }, { accessFlags := 16409, nameIndex := 9, descriptorIndex := 6, attributes := #[] }, { accessFlags := 18, nameIndex := 31, descriptorIndex := 32, attributes := #[] }, { accessFlags := 4122, nameIndex := 12, descriptorIndex := 13, attributes := #[] }])
  fields := #[{ name := "TENANT", type := (.object "com/example/ulinzi/ulinzi/model/OwnerName"), accessFlags := 16409, slot := 0, constantValue := 0 }, { name := "PROJECT", type := (.object "com/example/ulinzi/ulinzi/model/OwnerName"), accessFlags := 16409, slot := 1, constantValue := 0 }, { name := "text", type := (.object "java/lang/String"), accessFlags := 18, slot := 3, constantValue := 0 }, { name := "$VALUES", type := (.array (.object "com/example/ulinzi/ulinzi/model/OwnerName")), accessFlags := 4122, slot := 2, constantValue := 0 }]
  methods := #[k11m0]
  instanceTypes := #[(.object "java/lang/String"), .int, .int, (.object "java/lang/String")]
  staticTypes := #[(.object "com/example/ulinzi/ulinzi/model/OwnerName"), (.object "com/example/ulinzi/ulinzi/model/OwnerName"), (.array (.object "com/example/ulinzi/ulinzi/model/OwnerName"))]
  resolved := Array.replicate 62 none
  statics := some 1 }

def pool12 : Array CpInfo := pool [(4, .class_ 6), (1, u "java/lang/Object"), (0, u "<init>"), (0, u "()V"), (5, .class_ 16), (1, u "java/lang/StringLatin1"), (82, .methodref 14 100), (0, .nameAndType 101 102), (0, u "indexOf"), (0, u "([BI[BII)I"), (18, u "$assertionsDisabled"), (0, u "Z"), (98, .class_ 223), (1, u "java/lang/StringLatin1$LinesSpliterator"), (63, u "([B[B)I"), (102, .class_ 391), (0, u "java/lang/StringLatin1$CharsSpliterator")] 3

def k12m0 : Method := { name := "<init>", desc := "()V", sig := { parameters := [], returnType := none }, accessFlags := 0, code := none }
def k12c1 : Code := { maxStack := 5, maxLocals := 2, code := jdk_43_method_24_code, exceptionTable := #[], attributes := #[] }
def k12m1 : Method := { name := "indexOf", desc := "([B[B)I", sig := { parameters := [(.array .byte), (.array .byte)], returnType := some .int }, accessFlags := 9, code := some k12c1 }
def k12c2 : Code := { maxStack := 3, maxLocals := 11, code := jdk_43_method_25_code, exceptionTable := #[], attributes := #[] }
def k12m2 : Method := { name := "indexOf", desc := "([BI[BII)I", sig := { parameters := [(.array .byte), .int, (.array .byte), .int, .int], returnType := some .int }, accessFlags := 9, code := some k12c2 }
/-- java/lang/StringLatin1 -/
def k12 : Class := { plain "java/lang/StringLatin1" (some 0) with
  accessFlags := 48
  interfaces := #[]
  cf := some (fileOf pool12 14 #[.nestMembers #[390, 221]] #[{ accessFlags := 0, nameIndex := 7, descriptorIndex := 8, attributes := #[] }, { accessFlags := 9, nameIndex := 101, descriptorIndex := 287, attributes := #[] }, { accessFlags := 9, nameIndex := 101, descriptorIndex := 102, attributes := #[] }] 48 4 #[] #[{ accessFlags := 4120, nameIndex := 121, descriptorIndex := 122, attributes := #[] }])
  fields := #[{ name := "$assertionsDisabled", type := .boolean, accessFlags := 4120, slot := 0, constantValue := 0 }]
  methods := #[k12m0, k12m1, k12m2]
  instanceTypes := #[]
  staticTypes := #[.boolean]
  resolved := Array.replicate 395 none
  statics := none }

def pool13 : Array CpInfo := pool [(2, .class_ 4), (1, u "java/lang/Object"), (0, u "<init>"), (0, u "()V"), (17, .class_ 26), (1, u "jdk/internal/util/Preconditions"), (28, .class_ 56), (0, u "jdk/internal/util/Preconditions$4"), (57, .class_ 115), (0, u "jdk/internal/util/Preconditions$1"), (7, u "SIOOBE_FORMATTER"), (0, u "Ljava/util/function/BiFunction;"), (0, .class_ 126), (0, u "jdk/internal/util/Preconditions$2"), (3, u "AIOOBE_FORMATTER"), (0, .class_ 132), (0, u "jdk/internal/util/Preconditions$3"), (3, u "IOOBE_FORMATTER")] 57

def k13m0 : Method := { name := "<init>", desc := "()V", sig := { parameters := [], returnType := none }, accessFlags := 1, code := none }
/-- jdk/internal/util/Preconditions -/
def k13 : Class := { plain "jdk/internal/util/Preconditions" (some 0) with
  accessFlags := 33
  interfaces := #[]
  cf := some (fileOf pool13 24 #[.nestMembers #[55, 131, 125, 114]] #[{ accessFlags := 1, nameIndex := 5, descriptorIndex := 6, attributes := #[] }] 33 2 #[] #[{ accessFlags := 25, nameIndex := 123, descriptorIndex := 124, attributes := #[] }, { accessFlags := 25, nameIndex := 130, descriptorIndex := 124, attributes := #[] }, { accessFlags := 25, nameIndex := 136, descriptorIndex := 124, attributes := #[] }])
  fields := #[{ name := "SIOOBE_FORMATTER", type := (.object "java/util/function/BiFunction"), accessFlags := 25, slot := 0, constantValue := 0 }, { name := "AIOOBE_FORMATTER", type := (.object "java/util/function/BiFunction"), accessFlags := 25, slot := 1, constantValue := 0 }, { name := "IOOBE_FORMATTER", type := (.object "java/util/function/BiFunction"), accessFlags := 25, slot := 2, constantValue := 0 }]
  methods := #[k13m0]
  instanceTypes := #[]
  staticTypes := #[(.object "java/util/function/BiFunction"), (.object "java/util/function/BiFunction"), (.object "java/util/function/BiFunction")]
  resolved := Array.replicate 194 none
  statics := some 2 }

def pool14 : Array CpInfo := pool [(9, u "<init>"), (6, .class_ 18), (1, u "java/lang/Object"), (0, u "()V"), (1, .class_ 23), (1, u "jdk/internal/util/ArraysSupport"), (0, u "LOG2_ARRAY_LONG_INDEX_SCALE"), (0, u "I"), (2, u "U"), (0, u "Ljdk/internal/misc/Unsafe;"), (8, u "BIG_ENDIAN"), (0, u "Z"), (8, u "LOG2_BYTE_BIT_SIZE"), (4, u "LOG2_ARRAY_INT_INDEX_SCALE"), (54, u "JLA"), (0, u "Ljdk/internal/access/JavaLangAccess;"), (11, u "LOG2_ARRAY_BOOLEAN_INDEX_SCALE"), (9, u "LOG2_ARRAY_BYTE_INDEX_SCALE"), (5, u "LOG2_ARRAY_CHAR_INDEX_SCALE"), (5, u "LOG2_ARRAY_SHORT_INDEX_SCALE"), (18, u "LOG2_ARRAY_FLOAT_INDEX_SCALE"), (24, u "LOG2_ARRAY_DOUBLE_INDEX_SCALE"), (89, u "T_BOOLEAN"), (2, u "T_CHAR"), (1, u "T_FLOAT"), (1, u "T_DOUBLE"), (1, u "T_BYTE"), (1, u "T_SHORT"), (1, u "T_INT"), (1, u "T_LONG"), (1, u "SOFT_MAX_ARRAY_LENGTH")] 83

def k14m0 : Method := { name := "<init>", desc := "()V", sig := { parameters := [], returnType := none }, accessFlags := 2, code := none }
/-- jdk/internal/util/ArraysSupport -/
def k14 : Class := { plain "jdk/internal/util/ArraysSupport" (some 0) with
  accessFlags := 33
  interfaces := #[]
  cf := some (fileOf pool14 21 #[] #[{ accessFlags := 2, nameIndex := 9, descriptorIndex := 19, attributes := #[] }] 33 16 #[] #[{ accessFlags := 24, nameIndex := 28, descriptorIndex := 29, attributes := #[] }, { accessFlags := 26, nameIndex := 38, descriptorIndex := 39, attributes := #[] }, { accessFlags := 25, nameIndex := 121, descriptorIndex := 25, attributes := #[] }, { accessFlags := 25, nameIndex := 131, descriptorIndex := 25, attributes := #[] }, { accessFlags := 25, nameIndex := 137, descriptorIndex := 25, attributes := #[] }, { accessFlags := 25, nameIndex := 143, descriptorIndex := 25, attributes := #[] }, { accessFlags := 25, nameIndex := 53, descriptorIndex := 25, attributes := #[] }, { accessFlags := 25, nameIndex := 24, descriptorIndex := 25, attributes := #[] }, { accessFlags := 25, nameIndex := 162, descriptorIndex := 25, attributes := #[] }, { accessFlags := 25, nameIndex := 187, descriptorIndex := 25, attributes := #[] }, { accessFlags := 26, nameIndex := 48, descriptorIndex := 25, attributes := #[] }, { accessFlags := 25, nameIndex := 277, descriptorIndex := 25, attributes := #[] }, { accessFlags := 25, nameIndex := 280, descriptorIndex := 25, attributes := #[] }, { accessFlags := 25, nameIndex := 282, descriptorIndex := 25, attributes := #[] }, { accessFlags := 25, nameIndex := 284, descriptorIndex := 25, attributes := #[] }, { accessFlags := 25, nameIndex := 286, descriptorIndex := 25, attributes := #[] }, { accessFlags := 25, nameIndex := 288, descriptorIndex := 25, attributes := #[] }, { accessFlags := 25, nameIndex := 290, descriptorIndex := 25, attributes := #[] }, { accessFlags := 25, nameIndex := 292, descriptorIndex := 25, attributes := #[] }, { accessFlags := 26, nameIndex := 108, descriptorIndex := 109, attributes := #[] }, { accessFlags := 25, nameIndex := 294, descriptorIndex := 25, attributes := #[] }])
  fields := #[{ name := "U", type := (.object "jdk/internal/misc/Unsafe"), accessFlags := 24, slot := 0, constantValue := 0 }, { name := "BIG_ENDIAN", type := .boolean, accessFlags := 26, slot := 1, constantValue := 0 }, { name := "LOG2_ARRAY_BOOLEAN_INDEX_SCALE", type := .int, accessFlags := 25, slot := 2, constantValue := 0 }, { name := "LOG2_ARRAY_BYTE_INDEX_SCALE", type := .int, accessFlags := 25, slot := 3, constantValue := 0 }, { name := "LOG2_ARRAY_CHAR_INDEX_SCALE", type := .int, accessFlags := 25, slot := 4, constantValue := 0 }, { name := "LOG2_ARRAY_SHORT_INDEX_SCALE", type := .int, accessFlags := 25, slot := 5, constantValue := 0 }, { name := "LOG2_ARRAY_INT_INDEX_SCALE", type := .int, accessFlags := 25, slot := 6, constantValue := 0 }, { name := "LOG2_ARRAY_LONG_INDEX_SCALE", type := .int, accessFlags := 25, slot := 7, constantValue := 0 }, { name := "LOG2_ARRAY_FLOAT_INDEX_SCALE", type := .int, accessFlags := 25, slot := 8, constantValue := 0 }, { name := "LOG2_ARRAY_DOUBLE_INDEX_SCALE", type := .int, accessFlags := 25, slot := 9, constantValue := 0 }, { name := "LOG2_BYTE_BIT_SIZE", type := .int, accessFlags := 26, slot := 10, constantValue := 0 }, { name := "T_BOOLEAN", type := .int, accessFlags := 25, slot := 11, constantValue := 0 }, { name := "T_CHAR", type := .int, accessFlags := 25, slot := 12, constantValue := 0 }, { name := "T_FLOAT", type := .int, accessFlags := 25, slot := 13, constantValue := 0 }, { name := "T_DOUBLE", type := .int, accessFlags := 25, slot := 14, constantValue := 0 }, { name := "T_BYTE", type := .int, accessFlags := 25, slot := 15, constantValue := 0 }, { name := "T_SHORT", type := .int, accessFlags := 25, slot := 16, constantValue := 0 }, { name := "T_INT", type := .int, accessFlags := 25, slot := 17, constantValue := 0 }, { name := "T_LONG", type := .int, accessFlags := 25, slot := 18, constantValue := 0 }, { name := "JLA", type := (.object "jdk/internal/access/JavaLangAccess"), accessFlags := 26, slot := 19, constantValue := 0 }, { name := "SOFT_MAX_ARRAY_LENGTH", type := .int, accessFlags := 25, slot := 20, constantValue := 0 }]
  methods := #[k14m0]
  instanceTypes := #[]
  staticTypes := #[(.object "jdk/internal/misc/Unsafe"), .boolean, .int, .int, .int, .int, .int, .int, .int, .int, .int, .int, .int, .int, .int, .int, .int, .int, .int, (.object "jdk/internal/access/JavaLangAccess"), .int]
  resolved := Array.replicate 378 none
  statics := none }

def pool15 : Array CpInfo := pool [(1, u "java/lang/Cloneable"), (0, .class_ 1), (0, u "java/lang/Object"), (0, .class_ 3)] 3

/-- java/lang/Cloneable -/
def k15 : Class := { plain "java/lang/Cloneable" (some 0) with
  accessFlags := 1537
  interfaces := #[]
  cf := some (fileOf pool15 2 #[] #[] 1537 4 #[] #[])
  fields := #[]
  methods := #[]
  instanceTypes := #[]
  staticTypes := #[]
  resolved := Array.replicate 8 none
  statics := none }

/-- the primitive byte -/
def k16 : Class := { plain "byte" none with kind := .primitive 'B', accessFlags := 0x411 }
/-- [B -/
def k17 : Class := { plain "[B" (some 0) with kind := .array 16 .byte, interfaces := #[15, 2], accessFlags := 1041 }

/-- the primitive char -/
def k18 : Class := { plain "char" none with kind := .primitive 'C', accessFlags := 0x411 }
/-- [C -/
def k19 : Class := { plain "[C" (some 0) with kind := .array 18 .char, interfaces := #[15, 2], accessFlags := 1041 }

/-- the primitive int -/
def k20 : Class := { plain "int" none with kind := .primitive 'I', accessFlags := 0x411 }
/-- [I -/
def k21 : Class := { plain "[I" (some 0) with kind := .array 20 .int, interfaces := #[15, 2], accessFlags := 1041 }

def heap : Heap := #[{ cls := 7, slots := #[.long 0, .int 1, .null, .int 0, .null, .int 0, .int 0], vm := .statics 7 },
  { cls := 11, slots := #[.ref 7, .ref 8, .null], vm := .statics 11 },
  { cls := 13, slots := #[.null, .null, .null], vm := .statics 13 },
  { cls := 17, slots := #[.int 116, .int 101, .int 110, .int 97, .int 110, .int 116, .int 95, .int 105, .int 100], vm := .none },
  { cls := 17, slots := #[.int 112, .int 114, .int 111, .int 106, .int 101, .int 99, .int 116, .int 95, .int 105, .int 100], vm := .none },
  { cls := 7, slots := #[.ref 3, .int 0, .int 0, .int 0], vm := .none },
  { cls := 7, slots := #[.ref 4, .int 0, .int 0, .int 0], vm := .none },
  { cls := 11, slots := #[.null, .int 0, .int 0, .ref 5], vm := .none },
  { cls := 11, slots := #[.null, .int 1, .int 0, .ref 6], vm := .none }]
def classes : Array Class := #[k0, k1, k2, k3, k4, k5, k6, k7, k8, k9, k10, k11, k12, k13, k14, k15, k16, k17, k18, k19, k20, k21]
def interned : List (Array UInt16 × Addr) := []
def slotsUsed : Nat := 48
def theMethod : MethodId := ⟨1, 1⟩
def args0 : Array Value := #[.int 0, .long 5, .int 1, .int 2]
def aboutOver (below : List Frame) : State where
  vm := { classes := classes, interned := interned.toArray }
  heap := heap
  slotsUsed := slotsUsed
  threads := #[{ frames := .invoking theMethod args0 :: below }]
def below0 : List Frame := [.native { method := ⟨0, 0⟩, args := #[] }]
def about1 : State := aboutOver below0
def p0 : Program := .bare "" "" ""
def e0 : Env := launch0.env 0 0 0
theorem w_frames : about1.frames = Frame.invoking theMethod args0 :: below0 := rfl
set_option maxRecDepth 65536 in
theorem w_args : argsFit about1.vm theMethod args0 = true := by decide +kernel
set_option maxRecDepth 65536 in
theorem w_heap : heapFits about1 = true := by decide +kernel
set_option maxRecDepth 65536 in
theorem w_runnable : about1.curStatus? = some .runnable := by decide +kernel
set_option maxRecDepth 65536 in
theorem w_alone : about1.alone = true := by decide +kernel
set_option maxRecDepth 65536 in
theorem w_named : about1.methodNamed? x = some theMethod := by decide +kernel
set_option maxRecDepth 65536 in
theorem w_hears : about1.hears theMethod below0 = true := by decide +kernel
set_option maxRecDepth 65536 in
theorem w_ripe : about1.ripe theMethod args0 below0 = true := by decide +kernel
theorem w_running : about1.status = .running := rfl
set_option maxRecDepth 65536 in
theorem w_room : about1.hasRoom e0.platform room_1 = true :=
  launch0.hasRoom_least _ room_1 (by decide +kernel) (by decide +kernel) (by decide +kernel) (by decide +kernel) (by decide +kernel) (by decide +kernel)
theorem allAtoms_all (ts : List Jvm.Cond) (a : Array Jvm.Value) (st : Jvm.State) : (allAtoms ts).before a st = ts.all (fun c => c.before a st) := by
  induction ts with
  | nil => rfl
  | cons c t ih =>
    show (Jvm.Cond.and c (allAtoms t)).before a st = _
    rw [Jvm.Cond.before_and, ih, List.all_cons]
def words1 : List Jvm.Cond := Jvm.Cond.code x code maxLocals ret :: tables_1
/-- a 'code' word, met by the world's own term for the bytes: nothing is compared byte by byte -/
theorem code_word {y : MethodName} {bytes : ByteArray} {mx : Nat} {rt : Option FieldType} {a : Array Value} {s : State} {m : MethodId} {meth : Method} {c : Code} (h1 : s.methodNamed? y = some m) (h2 : s.vm.method? m = some meth) (h3 : meth.code = some c) (h4 : c.code = bytes)
    (h5 : (c.maxLocals == mx && c.exceptionTable.isEmpty && decide (c.maxStack ≤ mostOperands) && decide (meth.sig.returnType = rt) && !meth.locks && decide (parseMethodDescriptor y.desc = some meth.sig)) = true) : (Jvm.Cond.code y bytes mx rt).before a s = true := by
  simp only [Bool.and_eq_true, beq_iff_eq, Bool.not_eq_true', decide_eq_true_eq] at h5
  obtain ⟨⟨⟨⟨⟨g1, g2⟩, g3⟩, g4⟩, g5⟩, g6⟩ := h5
  simp [Cond.before, Cond.holds, Cond.value, h1, h2, h3, h4, g1, g2, g3, g4, g5, g6]
def isCode : Jvm.Cond → Bool
  | .code _ _ _ _ => true
  | _ => false
theorem all_split {L : List Jvm.Cond} {P : Jvm.Cond → Bool} (h1 : L.all (fun c => isCode c || P c) = true) (h2 : ∀ c ∈ L.filter isCode, P c = true) : L.all P = true := by
  refine List.all_eq_true.mpr fun c hc => ?_
  have h := List.all_eq_true.mp h1 c hc
  rcases Bool.eq_false_or_eq_true (isCode c) with hi | hi
  · exact h2 c (List.mem_filter.mpr ⟨hc, hi⟩)
  · simpa [hi] using h
set_option maxRecDepth 65536 in
theorem w_c0 : (Jvm.Cond.code x code maxLocals ret).before args0 about1 = true := code_word (m := ⟨1, 1⟩) (meth := k1m1) (c := k1c1) (by decide +kernel) rfl rfl rfl (by decide +kernel)
set_option maxRecDepth 65536 in
theorem w_c1 : (Jvm.Cond.code ({ cls := "com/example/ulinzi/ulinzi/model/OwnerFilterWrittenInPinLaw", name := "gap", desc := "(JI)C" } : Jvm.MethodName) method_3_code (3 : Nat) (Option.some Jvm.ClassFile.FieldType.char)).before args0 about1 = true := code_word (m := ⟨1, 2⟩) (meth := k1m2) (c := k1c2) (by decide +kernel) rfl rfl rfl (by decide +kernel)
set_option maxRecDepth 65536 in
theorem w_c2 : (Jvm.Cond.code ({ cls := "com/example/ulinzi/ulinzi/model/OwnerFilterWrittenInPinLaw", name := "place", desc := "([CI[C)I" } : Jvm.MethodName) method_4_code (3 : Nat) (Option.some Jvm.ClassFile.FieldType.int)).before args0 about1 = true := code_word (m := ⟨1, 3⟩) (meth := k1m3) (c := k1c3) (by decide +kernel) rfl rfl rfl (by decide +kernel)
set_option maxRecDepth 65536 in
theorem w_c3 : (Jvm.Cond.code ({ cls := "java/lang/String", name := "<init>", desc := "([C)V" } : Jvm.MethodName) jdk_42_method_3_code (2 : Nat) (Option.none : Option Jvm.ClassFile.FieldType)).before args0 about1 = true := code_word (m := ⟨7, 1⟩) (meth := k7m1) (c := k7c1) (by decide +kernel) rfl rfl rfl (by decide +kernel)
set_option maxRecDepth 65536 in
theorem w_c4 : (Jvm.Cond.code ({ cls := "java/lang/String", name := "<init>", desc := "([CIILjava/lang/Void;)V" } : Jvm.MethodName) jdk_42_method_149_code (6 : Nat) (Option.none : Option Jvm.ClassFile.FieldType)).before args0 about1 = true := code_word (m := ⟨7, 5⟩) (meth := k7m5) (c := k7c5) (by decide +kernel) rfl rfl rfl (by decide +kernel)
set_option maxRecDepth 65536 in
theorem w_c5 : (Jvm.Cond.code ({ cls := "java/lang/Object", name := "<init>", desc := "()V" } : Jvm.MethodName) object_method_1_code (1 : Nat) (Option.none : Option Jvm.ClassFile.FieldType)).before args0 about1 = true := code_word (m := ⟨0, 0⟩) (meth := k0m0) (c := k0c0) (by decide +kernel) rfl rfl rfl (by decide +kernel)
set_option maxRecDepth 65536 in
theorem w_c6 : (Jvm.Cond.code ({ cls := "java/lang/StringUTF16", name := "compress", desc := "([CII)[B" } : Jvm.MethodName) jdk_52_method_16_code (6 : Nat) (Option.some (Jvm.ClassFile.FieldType.array Jvm.ClassFile.FieldType.byte))).before args0 about1 = true := code_word (m := ⟨8, 2⟩) (meth := k8m2) (c := k8c2) (by decide +kernel) rfl rfl rfl (by decide +kernel)
set_option maxRecDepth 65536 in
theorem w_c7 : (Jvm.Cond.code ({ cls := "java/lang/StringUTF16", name := "compress", desc := "([CI[BII)I" } : Jvm.MethodName) jdk_52_method_21_code (7 : Nat) (Option.some Jvm.ClassFile.FieldType.int)).before args0 about1 = true := code_word (m := ⟨8, 3⟩) (meth := k8m3) (c := k8c3) (by decide +kernel) rfl rfl rfl (by decide +kernel)
set_option maxRecDepth 65536 in
theorem w_c8 : (Jvm.Cond.code ({ cls := "java/lang/StringUTF16", name := "coderFromArrayLen", desc := "([BI)B" } : Jvm.MethodName) jdk_52_method_15_code (2 : Nat) (Option.some Jvm.ClassFile.FieldType.byte)).before args0 about1 = true := code_word (m := ⟨8, 1⟩) (meth := k8m1) (c := k8c1) (by decide +kernel) rfl rfl rfl (by decide +kernel)
set_option maxRecDepth 65536 in
theorem w_c9 : (Jvm.Cond.code ({ cls := "com/example/ulinzi/ulinzi/model/OwnerFilter", name := "writtenIn", desc := "(Ljava/lang/String;)Lcom/example/ulinzi/ulinzi/model/OwnerName;" } : Jvm.MethodName) prog_21_method_5_code (4 : Nat) (Option.some (Jvm.ClassFile.FieldType.object "com/example/ulinzi/ulinzi/model/OwnerName"))).before args0 about1 = true := code_word (m := ⟨9, 1⟩) (meth := k9m1) (c := k9c1) (by decide +kernel) rfl rfl rfl (by decide +kernel)
set_option maxRecDepth 65536 in
theorem w_c10 : (Jvm.Cond.code ({ cls := "com/example/ulinzi/ulinzi/model/OwnerName", name := "text", desc := "()Ljava/lang/String;" } : Jvm.MethodName) prog_23_method_4_code (1 : Nat) (Option.some (Jvm.ClassFile.FieldType.object "java/lang/String"))).before args0 about1 = true := code_word (m := ⟨11, 0⟩) (meth := k11m0) (c := k11c0) (by decide +kernel) rfl rfl rfl (by decide +kernel)
set_option maxRecDepth 65536 in
theorem w_c11 : (Jvm.Cond.code ({ cls := "java/lang/String", name := "contains", desc := "(Ljava/lang/CharSequence;)Z" } : Jvm.MethodName) jdk_42_method_97_code (2 : Nat) (Option.some Jvm.ClassFile.FieldType.boolean)).before args0 about1 = true := code_word (m := ⟨7, 3⟩) (meth := k7m3) (c := k7c3) (by decide +kernel) rfl rfl rfl (by decide +kernel)
set_option maxRecDepth 65536 in
theorem w_c12 : (Jvm.Cond.code ({ cls := "java/lang/String", name := "toString", desc := "()Ljava/lang/String;" } : Jvm.MethodName) jdk_42_method_126_code (1 : Nat) (Option.some (Jvm.ClassFile.FieldType.object "java/lang/String"))).before args0 about1 = true := code_word (m := ⟨7, 4⟩) (meth := k7m4) (c := k7c4) (by decide +kernel) rfl rfl rfl (by decide +kernel)
set_option maxRecDepth 65536 in
theorem w_c13 : (Jvm.Cond.code ({ cls := "java/lang/String", name := "indexOf", desc := "(Ljava/lang/String;)I" } : Jvm.MethodName) jdk_42_method_84_code (3 : Nat) (Option.some Jvm.ClassFile.FieldType.int)).before args0 about1 = true := code_word (m := ⟨7, 2⟩) (meth := k7m2) (c := k7c2) (by decide +kernel) rfl rfl rfl (by decide +kernel)
set_option maxRecDepth 65536 in
theorem w_c14 : (Jvm.Cond.code ({ cls := "java/lang/String", name := "coder", desc := "()B" } : Jvm.MethodName) jdk_42_method_152_code (1 : Nat) (Option.some Jvm.ClassFile.FieldType.byte)).before args0 about1 = true := code_word (m := ⟨7, 6⟩) (meth := k7m6) (c := k7c6) (by decide +kernel) rfl rfl rfl (by decide +kernel)
set_option maxRecDepth 65536 in
theorem w_c15 : (Jvm.Cond.code ({ cls := "java/lang/String", name := "isLatin1", desc := "()Z" } : Jvm.MethodName) jdk_42_method_154_code (1 : Nat) (Option.some Jvm.ClassFile.FieldType.boolean)).before args0 about1 = true := code_word (m := ⟨7, 7⟩) (meth := k7m7) (c := k7c7) (by decide +kernel) rfl rfl rfl (by decide +kernel)
set_option maxRecDepth 65536 in
theorem w_c16 : (Jvm.Cond.code ({ cls := "java/lang/StringLatin1", name := "indexOf", desc := "([B[B)I" } : Jvm.MethodName) jdk_43_method_24_code (2 : Nat) (Option.some Jvm.ClassFile.FieldType.int)).before args0 about1 = true := code_word (m := ⟨12, 1⟩) (meth := k12m1) (c := k12c1) (by decide +kernel) rfl rfl rfl (by decide +kernel)
set_option maxRecDepth 65536 in
theorem w_c17 : (Jvm.Cond.code ({ cls := "java/lang/StringLatin1", name := "indexOf", desc := "([BI[BII)I" } : Jvm.MethodName) jdk_43_method_25_code (11 : Nat) (Option.some Jvm.ClassFile.FieldType.int)).before args0 about1 = true := code_word (m := ⟨12, 2⟩) (meth := k12m2) (c := k12c2) (by decide +kernel) rfl rfl rfl (by decide +kernel)
def codes1 : List Jvm.Cond := [Jvm.Cond.code x code maxLocals ret, Jvm.Cond.code ({ cls := "com/example/ulinzi/ulinzi/model/OwnerFilterWrittenInPinLaw", name := "gap", desc := "(JI)C" } : Jvm.MethodName) method_3_code (3 : Nat) (Option.some Jvm.ClassFile.FieldType.char), Jvm.Cond.code ({ cls := "com/example/ulinzi/ulinzi/model/OwnerFilterWrittenInPinLaw", name := "place", desc := "([CI[C)I" } : Jvm.MethodName) method_4_code (3 : Nat) (Option.some Jvm.ClassFile.FieldType.int), Jvm.Cond.code ({ cls := "java/lang/String", name := "<init>", desc := "([C)V" } : Jvm.MethodName) jdk_42_method_3_code (2 : Nat) (Option.none : Option Jvm.ClassFile.FieldType), Jvm.Cond.code ({ cls := "java/lang/String", name := "<init>", desc := "([CIILjava/lang/Void;)V" } : Jvm.MethodName) jdk_42_method_149_code (6 : Nat) (Option.none : Option Jvm.ClassFile.FieldType), Jvm.Cond.code ({ cls := "java/lang/Object", name := "<init>", desc := "()V" } : Jvm.MethodName) object_method_1_code (1 : Nat) (Option.none : Option Jvm.ClassFile.FieldType), Jvm.Cond.code ({ cls := "java/lang/StringUTF16", name := "compress", desc := "([CII)[B" } : Jvm.MethodName) jdk_52_method_16_code (6 : Nat) (Option.some (Jvm.ClassFile.FieldType.array Jvm.ClassFile.FieldType.byte)), Jvm.Cond.code ({ cls := "java/lang/StringUTF16", name := "compress", desc := "([CI[BII)I" } : Jvm.MethodName) jdk_52_method_21_code (7 : Nat) (Option.some Jvm.ClassFile.FieldType.int), Jvm.Cond.code ({ cls := "java/lang/StringUTF16", name := "coderFromArrayLen", desc := "([BI)B" } : Jvm.MethodName) jdk_52_method_15_code (2 : Nat) (Option.some Jvm.ClassFile.FieldType.byte), Jvm.Cond.code ({ cls := "com/example/ulinzi/ulinzi/model/OwnerFilter", name := "writtenIn", desc := "(Ljava/lang/String;)Lcom/example/ulinzi/ulinzi/model/OwnerName;" } : Jvm.MethodName) prog_21_method_5_code (4 : Nat) (Option.some (Jvm.ClassFile.FieldType.object "com/example/ulinzi/ulinzi/model/OwnerName")), Jvm.Cond.code ({ cls := "com/example/ulinzi/ulinzi/model/OwnerName", name := "text", desc := "()Ljava/lang/String;" } : Jvm.MethodName) prog_23_method_4_code (1 : Nat) (Option.some (Jvm.ClassFile.FieldType.object "java/lang/String")), Jvm.Cond.code ({ cls := "java/lang/String", name := "contains", desc := "(Ljava/lang/CharSequence;)Z" } : Jvm.MethodName) jdk_42_method_97_code (2 : Nat) (Option.some Jvm.ClassFile.FieldType.boolean), Jvm.Cond.code ({ cls := "java/lang/String", name := "toString", desc := "()Ljava/lang/String;" } : Jvm.MethodName) jdk_42_method_126_code (1 : Nat) (Option.some (Jvm.ClassFile.FieldType.object "java/lang/String")), Jvm.Cond.code ({ cls := "java/lang/String", name := "indexOf", desc := "(Ljava/lang/String;)I" } : Jvm.MethodName) jdk_42_method_84_code (3 : Nat) (Option.some Jvm.ClassFile.FieldType.int), Jvm.Cond.code ({ cls := "java/lang/String", name := "coder", desc := "()B" } : Jvm.MethodName) jdk_42_method_152_code (1 : Nat) (Option.some Jvm.ClassFile.FieldType.byte), Jvm.Cond.code ({ cls := "java/lang/String", name := "isLatin1", desc := "()Z" } : Jvm.MethodName) jdk_42_method_154_code (1 : Nat) (Option.some Jvm.ClassFile.FieldType.boolean), Jvm.Cond.code ({ cls := "java/lang/StringLatin1", name := "indexOf", desc := "([B[B)I" } : Jvm.MethodName) jdk_43_method_24_code (2 : Nat) (Option.some Jvm.ClassFile.FieldType.int), Jvm.Cond.code ({ cls := "java/lang/StringLatin1", name := "indexOf", desc := "([BI[BII)I" } : Jvm.MethodName) jdk_43_method_25_code (11 : Nat) (Option.some Jvm.ClassFile.FieldType.int)]
set_option maxRecDepth 65536 in
theorem codes_eq : words1.filter isCode = codes1 := rfl
theorem w_codes : ∀ c ∈ words1.filter isCode, c.before args0 about1 = true := by
  rw [codes_eq]
  intro c hc
  simp only [codes1, List.mem_cons, List.not_mem_nil, or_false] at hc
  rcases hc with rfl | rfl | rfl | rfl | rfl | rfl | rfl | rfl | rfl | rfl | rfl | rfl | rfl | rfl | rfl | rfl | rfl | rfl
  · exact w_c0
  · exact w_c1
  · exact w_c2
  · exact w_c3
  · exact w_c4
  · exact w_c5
  · exact w_c6
  · exact w_c7
  · exact w_c8
  · exact w_c9
  · exact w_c10
  · exact w_c11
  · exact w_c12
  · exact w_c13
  · exact w_c14
  · exact w_c15
  · exact w_c16
  · exact w_c17
set_option maxRecDepth 65536 in
theorem w_t1 : (words1.take 24).all (fun c => isCode c || c.before args0 about1) = true := by decide +kernel
set_option maxRecDepth 65536 in
theorem w_t2 : ((words1.drop 24).take 24).all (fun c => isCode c || c.before args0 about1) = true := by decide +kernel
set_option maxRecDepth 65536 in
theorem w_t3 : (((words1.drop 24).drop 24).take 24).all (fun c => isCode c || c.before args0 about1) = true := by decide +kernel
set_option maxRecDepth 65536 in
theorem w_t4 : (((words1.drop 24).drop 24).drop 24).all (fun c => isCode c || c.before args0 about1) = true := by decide +kernel
theorem w_tables : (allAtoms (Jvm.Cond.code x code maxLocals ret :: tables_1)).before args0 about1 = true := by
  rw [allAtoms_all]
  show words1.all (fun c => c.before args0 about1) = true
  refine all_split ?_ w_codes
  rw [← List.take_append_drop 24 words1, List.all_append, w_t1, ← List.take_append_drop 24 (words1.drop 24), List.all_append, w_t2, ← List.take_append_drop 24 ((words1.drop 24).drop 24), List.all_append, w_t3, w_t4]
  rfl
set_option maxRecDepth 65536 in
theorem w_rest : rest_1_c.before args0 about1 = true := by decide +kernel
set_option maxRecDepth 65536 in
theorem w_case : (Jvm.Cond.and given_1 narrow_1).before args0 about1 = true := by decide +kernel
theorem w_applies : (headSpec (Jvm.Cond.code x code maxLocals ret :: tables_1) room_1).applies x e0.platform about1 = true :=
  (Spec.applies_iff w_frames).mpr ⟨w_running, w_runnable, w_alone, w_named, w_hears, w_ripe, w_room, w_tables⟩
theorem atStart : AtStart classFile x code maxLocals ret World_1 tables_1 room_1 Calls_1 rest_1 Pre_1 launch0 p0 e0 about1 theMethod args0 below0 :=
  ⟨lists_1, trivial, launch0.admits_env _ _ _, launch0.least_env, fairChoices_fair.cas, fairChoices_fair.clock, w_frames, w_args, w_heap, w_applies, trivial, w_rest, w_case⟩
end start1
theorem witness_1 : WitnessClaimed_1 := ⟨start1.p0, start1.e0, start1.about1, start1.theMethod, start1.args0, start1.below0, start1.atStart⟩
end Jvm.Pilot.@@N@@
