import JvmDerived
import JvmDerived.Pilot.@@N@@Statement
import JvmDerived.Pilot.@@N@@Code
set_option linter.unusedVariables false
set_option linter.unusedSimpArgs false
namespace Jvm.RoadKit
open Sem ClassFile Op Lib Jvm.Stand Jvm.Free Jvm.LawKit
section New
variable {p : Program} {l : Launch} {e : Env} {R : Room} {s : State} {m : MethodId} {args : Array Value} {below : List Frame} {meth : Method} {c : Code} {T : State} {locs : List Loc} {cells slots : Nat}
theorem retI (X : Stand p l e R s m args below meth c T locs cells slots) (hx : p.tables.exec = Jvm.exec) {pc : Nat} {Ls : Array Slot} {z : Int32} {rest : List Value} (hret : meth.sig.returnType = some .int) (hd : decode c.code pc = .ok (.ireturn, 1)) {fs : List Frame}
    (hl : ∀ (f : JFrame) (acts : List Action), f.method = m → f.locked = none → f.entered = [] → (doReturn e (T.setTop f) acts (some (.int z))).1 = T.setFrames fs) : Steps p.tables e below (T.setTop (mkF m pc Ls (.int z :: rest))) (T.setFrames fs) := by
  have hm' : T.vm.method? m = some meth := X.method'
  have hn : narrow .int (.int z) = .int z := rfl
  show Steps p.tables e below (T.setTop { method := m, pc := pc, locals := Ls, stack := _ :: rest, locked := none }) _
  jvm_step X.here [X.here.top, hx, hd, hm', hret, hn]
  first | (intro acts; rw [hl _ acts rfl rfl rfl]) | rw [hl _ _ rfl rfl rfl]
  exact Steps.refl _
end New
end Jvm.RoadKit
namespace Jvm.RoadKit
open Sem ClassFile Op Lib Jvm.Stand Jvm.Free Jvm.LawKit
theorem backOfSV {l : Launch} {R : Room} {p : Program} {e : Env} {below : List Frame} {s Z : State} {args a0 : Array Value} {h : Heap} {y : MethodName} {bytes : ByteArray} {maxL : Nat} {ret : Option FieldType} {rm : Room} {len W : Nat} {as' : Array Value} {P : Vm → Prop} {Q : Option Value → Heap → Vm → List Loc → Prop}
    (hM : MetFree l y (head1 [Cond.code y bytes maxL ret] rm) (fun a U => a = as' ∧ Z.Warmed39 U.vm ∧ U.heap = h ∧ P U.vm) (fun _ _ _ _ _ => True) (fun _ U o U' => ∃ v L, o = .returned v ∧ Q v U'.heap U'.vm L ∧ ReturnedEndW U o U' L rm.cells rm.slots))
    (hZ : Z.Warmed39 s.vm) (wc : (Cond.code y bytes maxL ret).before a0 Z = true) (wz : (Cond.initialized y.cls).before a0 Z = true) (hf : rm.frames + 1 ≤ R.frames) (hl : W + (maxL + 11) + rm.locals ≤ R.locals) :
    BackS l R p e below s args y len W (fun A a => a = as' ∧ A.U.heap = h ∧ A.cells + rm.cells ≤ R.cells ∧ A.slots + rm.slots ≤ R.slots ∧ P A.U.vm)
      (fun A _ v B => ∃ L, Q v B.U.heap B.U.vm L ∧ B.locs = A.locs ++ L ∧ B.cells = A.cells + rm.cells ∧ B.slots = A.slots + rm.slots) :=
  BackS.of_freeW (bytes := bytes) (maxL := maxL) (ret := ret) (E := fun _ _ o t L k n => k = rm.cells ∧ n = rm.slots ∧ ∃ v, o = .returned v ∧ Q v t.heap t.vm L) hM hf hl
    (fun m meth c A a Y hp => have hU : Z.Warmed39 A.U.vm := wtrans hZ Y.warmed
      ⟨by show (Cond.and _ .tt).before a A.U = true; rw [Cond.before_and, mv hU wc]; rfl, mv hU wc, mv hU wz, hp.2.2.1, hp.2.2.2.1⟩)
    (fun m meth c A a g mk Y hp => ⟨hp.1, wtrans hZ Y.warmed, hp.2.1, hp.2.2.2.2⟩) (fun _ _ _ _ _ _ _ _ _ => trivial)
    (fun _ _ _ _ ⟨v, L, h1, h2, h3⟩ => ⟨L, _, _, h3, rfl, rfl, v, h1, h2⟩)
    (fun m meth c A a g mk v t L k n Y hp _ _ ⟨e1, e2, v', e3, e4⟩ => by cases e3; subst e1 e2; exact ⟨L, e4, rfl, rfl, rfl⟩)
/-- the String constant "" of the class String (entry 7): not loaded since the case's start (IB), or loaded, and what it holds -/
def Emp (Z : State) (h : Heap) (vm : Vm) : Prop := IB Z vm [] ∨ ∃ (a b : Addr) (k : ClassId), Lit (Z.setVm vm) "java/lang/String" 7 a ∧ Exa Z h a "java/lang/String" ∧ Fld Z h a "java/lang/String" "coder" "B" (.int 0) ∧ Fld Z h a "java/lang/String" "value" "[B" (.ref b) ∧ Arv Z h b k .byte 0 [] (.int 0) ∧ IB Z vm [""]
theorem Emp.ext {Z : State} {h h' : Heap} {vm : Vm} (H : Emp Z h vm) (E : Ext h h') : Emp Z h' vm := by
  rcases H with I | ⟨a, b, k, L, e, f, g, r, I⟩
  · exact Or.inl I
  · exact Or.inr ⟨a, b, k, L, e.ext E, f.ext E, g.ext E, r.ext E, I⟩
theorem Emp.keep {Z : State} {h h' : Heap} {vm : Vm} (H : Emp Z h vm) (K : Keep h h' []) : Emp Z h' vm := by
  rcases H with I | ⟨a, b, k, L, e, f, g, r, I⟩
  · exact Or.inl I
  · exact Or.inr ⟨a, b, k, L, e.keep K, f.keep K nin0, g.keep K nin0, r.keep K nin0, I⟩
theorem lit_warm {Z s : State} {own : String} {i : Nat} {a : Addr} {vm0 vm1 : Vm} (L : Lit (Z.setVm vm0) own i a) (hW : s.WarmedH vm1) (e : s.vm = vm0 := by rfl) : Lit (Z.setVm vm1) own i a := by
  subst e
  have q : s.resolvedAt? own i = some (.string a) := L
  have r := State.resolvedAt?_warmed39 (s := s) hW.wide q
  exact r
theorem ib_warm {Z s : State} {Ts : List String} {vm0 vm1 : Vm} (H : IB Z vm0 Ts) (hW : s.WarmedH vm1) (e : s.vm = vm0 := by rfl) : IB Z vm1 Ts := by
  obtain ⟨more, q, hm⟩ := H
  exact ⟨more, hW.interned_eq.trans (by rw [e]; exact q), hm⟩
theorem Emp.warm {Z s : State} {h : Heap} {vm0 vm1 : Vm} (H : Emp Z h vm0) (hW : s.WarmedH vm1) (e : s.vm = vm0 := by rfl) : Emp Z h vm1 := by
  rcases H with I | ⟨a, b, k, L, r1, r2, r3, r4, I⟩
  · exact Or.inl (ib_warm I hW e)
  · exact Or.inr ⟨a, b, k, lit_warm L hW e, r1, r2, r3, r4, ib_warm I hW e⟩
/-- the text "/" has not been loaded since the case's start -/
def Sl (Z : State) (vm : Vm) : Prop := ∃ Ts, IB Z vm Ts ∧ "/" ∉ Ts
theorem Emp.slash {Z : State} {h : Heap} {vm : Vm} (H : Emp Z h vm) : Sl Z vm := by
  rcases H with I | ⟨a, b, k, L, r1, r2, r3, r4, I⟩
  · exact ⟨[], I, by simp⟩
  · exact ⟨[""], I, by decide⟩
theorem Sl.warm {Z s : State} {vm0 vm1 : Vm} (H : Sl Z vm0) (hW : s.WarmedH vm1) (e : s.vm = vm0 := by rfl) : Sl Z vm1 := by
  obtain ⟨Ts, I, q⟩ := H
  exact ⟨Ts, ib_warm I hW e, q⟩
/-- nothing old has been written: the walk's places may be forgotten -/
theorem own_clear {p : Program} {l : Launch} {e : Env} {R : Room} {s : State} {m : MethodId} {args : Array Value} {below : List Frame} {meth : Method} {c : Code} {T : State} {locs : List Loc} {cells slots : Nat} (X : Stand p l e R s m args below meth c T locs cells slots) (hold : ∀ (b : Addr) (cl : Cell), s.heap[b]? = some cl → T.heap[b]? = some cl) : Stand p l e R s m args below meth c T [] cells slots :=
  { X with same := ⟨X.same.1, X.same.2.1, X.same.2.2.1, X.same.2.2.2.1, X.same.2.2.2.2.1, fun a c h => ⟨c, hold a c h, rfl, rfl, fun _ _ => rfl⟩⟩ }
end Jvm.RoadKit
namespace Jvm.Pilot.@@N@@
open Jvm Jvm.ClassFile Sem Op Lib Jvm.Free Jvm.Stand Jvm.LawKit Jvm.RoadKit Bundle Jvm.Pilot.@@N@@.Jvm.D
theorem own_refc {v : Value} (h : v.isRef = true) : v = .null ∨ ∃ a, v = .ref a := by cases v <;> simp_all [Value.isRef]
theorem own_narR {t : FieldType} {v : Value} (h : v.isRef = true) : narrow t v = v := by rcases own_refc h with rfl | ⟨_, rfl⟩ <;> cases t <;> rfl
theorem own_selp {s : State} {args : Array Value} {C : String} {y : MethodName} (hs : (Jvm.Cond.selects C y y).before args s = true) (hi : (Jvm.Cond.instanceMethod y).before args s = true) (hp : s.PrivateAt y) (hy : y.cls ≠ "java/lang/invoke/MethodHandle" ∧ y.cls ≠ "java/lang/invoke/VarHandle") : (Jvm.Cond.selects y.cls y y).before args s = true := by
  obtain ⟨c2, r2, m2, -, -, q3, -, kP, hkP, hkPi⟩ := Cond.selects_spec hs
  exact selects_self_of_private (findClass_of_methodNamed q3) hkP hkPi hp hi hy
theorem own_nf {s : State} {args : Array Value} {C : String} {y y' : MethodName} (hs : (Jvm.Cond.selects C y' y').before args s = true) (e : y'.cls = y.cls) : NotFace s y := by
  obtain ⟨c2, r2, m2, -, -, q3, -, kP, hkP, hkPi⟩ := Cond.selects_spec hs
  intro r0 hr0
  have h1 := findClass_of_methodNamed hr0
  have h2 := findClass_of_methodNamed q3
  rw [e, h1] at h2
  exact ⟨kP, by rw [Option.some.inj h2]; exact hkP, hkPi⟩
theorem own_sameM {s : State} {args : Array Value} {C : String} {y y' : MethodName} (hi : (Jvm.Cond.instanceMethod y).before args s = true) (hs : (Jvm.Cond.selects C y' y').before args s = true) (e : y'.cls = y.cls) (hy : y.cls ≠ "java/lang/invoke/MethodHandle" ∧ y.cls ≠ "java/lang/invoke/VarHandle") : (Jvm.Cond.sameMethod y.cls y.cls y.name y.desc).before args s = true := by
  obtain ⟨c2, r2, m2, -, -, q3, -, kP, hkP, hkPi⟩ := Cond.selects_spec hs
  obtain ⟨mk, methM, hnamed, hmethM, -, -⟩ := Cond.instanceMethod_spec hi
  have hfound : s.methodFound? y.cls y.name y.desc = some mk := State.methodFound?_of_named hnamed hy
  have h1 := findClass_of_methodNamed hnamed
  have h2 := findClass_of_methodNamed q3
  rw [e, h1] at h2
  have hk : s.vm.classes[mk.cls]? = some kP := by rw [Option.some.inj h2]; exact hkP
  have hn' : s.methodNamed? ⟨y.cls, y.name, y.desc⟩ = some mk := hnamed
  simp only [Jvm.Cond.before, Jvm.Cond.holds, Jvm.Cond.value, h1, hfound, hn', hk]
  simp; exact hkPi
theorem own_le {Z : State} {n0 : Nat} {h : Heap} (O : Old Z n0 h) : n0 ≤ h.size := O.1 ▸ O.2.1
theorem own_fitR {t : FieldType} {v : Value} (ht : refKind t = true) (h : v.isRef = true) : fits t v = true := by rcases own_refc h with rfl | ⟨_, rfl⟩ <;> cases t <;> simp_all [refKind, fits]
theorem own_root {Z : State} {a0 : Array Value} {O K : String} {n : Nat} (w : (Jvm.Cond.noSuperclass O).before a0 Z = true) (wk : (Jvm.Cond.instantiable K n).before a0 Z = true) (hn : O ≠ K) : NS Z O K := by
  obtain ⟨c, k, h1, h2, h3, -, -⟩ := Cond.noSuperclass_spec w
  obtain ⟨t, k2, g1, -⟩ := Cond.instantiable_spec wk
  have ne := ids_ne h1 g1 hn
  refine ⟨c, t, h1, g1, fun fuel => ?_⟩
  cases fuel with
  | zero => rfl
  | succ f => simp [Vm.isSubclassAux, ne, h2, h3]
theorem own_no {Z : State} {a0 : Array Value} {C S K : String} {n : Nat} (w : (Jvm.Cond.superclass C S).before a0 Z = true) (wk : (Jvm.Cond.instantiable K n).before a0 Z = true) (ns : NS Z C K) (hn : C ≠ K) : ∃ c t, Z.vm.findClass C = some c ∧ Z.vm.findClass K = some t ∧ Z.vm.assignable c t = false := by
  obtain ⟨c, t, h0, g0, n3⟩ := ns
  obtain ⟨p, k, kp, h1, h2, h3, h4, h5, -, h7⟩ := Cond.superclass_spec h0 w
  obtain ⟨q, k', g1, g2, g3, g4, -⟩ := Cond.instantiable_spec wk
  cases g0.symm.trans g1
  have ne := ids_ne h0 g0 hn
  have g5 : k'.isInterface = false := by cases hi : k'.isInterface <;> simp_all
  refine ⟨c, t, h0, g0, ?_⟩
  show Z.vm.assignableAux (255 + 1) c t = false
  simp [Vm.assignableAux, ne, h2, g2, h5, g3, g5, Vm.isSubclass, n3]
theorem own_b8 (x : Int32) : x.toInt8.toInt32.toInt8.toInt32 = x.toInt8.toInt32 := by simp
theorem own_ti {k q : Int32} {n : Int} (e : q.toInt = n) (h : n = k.toInt) : k = q := Int32.toInt_inj.mp (h.symm.trans e.symm)
theorem ne_arv {Z : State} {h : Heap} {a b : Addr} {C : String} {a0 : Array Value} {k : Nat} {kc : ClassId} {ty : FieldType} {z : Int32} {vs : List Value} {dv : Value} (F : Exa Z h a C) (wi : (Jvm.Cond.instantiable C k).before a0 Z = true) (G : Arv Z h b kc ty z vs dv) : a ≠ b := by obtain ⟨c, A, -⟩ := G; exact ne_arr F wi A
theorem mg {l : List Jvm.Cond} {i : Nat} {a : Jvm.Cond} (h : l[i]? = some a) : a ∈ l := List.mem_of_getElem? h
theorem own_eqi {t : Term} {n : Int32} {args : Array Value} {s : State} (h : (Jvm.Cond.eq t (.int n)).value args s none s [] = some true) : t.eval args s none [] s = some (.int n) := by
  simp only [Jvm.Cond.value] at h
  have hn : (Term.int n).eval args s none [] s = some (.int n) := rfl
  rw [hn] at h
  cases hv : t.eval args s none [] s with
  | none => simp [hv] at h
  | some x => cases x <;> simp [hv] at h ⊢; exact h
theorem own_255 (x : Int32) : ¬ ((255 : Int32) < (x &&& (255 : Int32))) := by
  rw [Int32.lt_iff_toInt_lt]
  have := c_and x 255 (by decide)
  have e : (255 : Int32).toInt = 255 := by decide
  rw [e] at this ⊢; omega
def Ln (z : Int32) (vs : List Value) (m : Nat) : Prop := ¬ z < (0 : Int32) ∧ z.toNatClampNeg = vs.length ∧ vs.length ≤ m
def Pd (bs : List Value) : List Value := bs ++ List.replicate (16 - bs.length) (.int 0)
theorem i32n {z : Int32} (h : ¬ z < (0 : Int32)) : (z.toNatClampNeg : Int) = z.toInt := by
  rw [Int32.lt_iff_toInt_lt, show (0 : Int32).toInt = 0 from by decide] at h
  have : z.toNatClampNeg = z.toInt.toNat := rfl
  omega
theorem i32lt {x y : Int32} : x < y ↔ x.toInt < y.toInt := Int32.lt_iff_toInt_lt
theorem Ln.mono {z : Int32} {vs : List Value} {m m' : Nat} (h : Ln z vs m) (q : m ≤ m') : Ln z vs m' := ⟨h.1, h.2.1, Nat.le_trans h.2.2 q⟩
theorem Ln.nil : Ln (0 : Int32) [] 0 := ⟨by decide, rfl, Nat.le_refl _⟩
theorem Ln.toI {z : Int32} {vs : List Value} {m : Nat} (h : Ln z vs m) : z.toInt = vs.length ∧ vs.length ≤ m := by
  have := i32n h.1
  rw [h.2.1] at this
  exact ⟨this.symm, h.2.2⟩
theorem Ln.of {z : Int32} {vs : List Value} {m : Nat} (h : z.toInt = vs.length) (q : vs.length ≤ m) : Ln z vs m := by
  have h0 : ¬ z < (0 : Int32) := by rw [i32lt, show (0 : Int32).toInt = 0 from by decide]; omega
  refine ⟨h0, ?_, q⟩
  have := i32n h0
  omega
theorem Ln.add {c z : Int32} {bs vs : List Value} {m m' : Nat} (h : Ln c bs m) (g : Ln z vs m') (q : m + m' ≤ 100) : Ln (c + z) (bs ++ vs) (m + m') := by
  have a := h.toI
  have b := g.toI
  have e := c_iadd c z
  have r := rng32 (c + z)
  refine Ln.of ?_ (by rw [List.length_append]; omega)
  rw [List.length_append]
  omega
theorem own_pdl {bs : List Value} (h : bs.length ≤ 16) : (Pd bs).length = 16 := by
  unfold Pd; rw [List.length_append, List.length_replicate]; omega
theorem own_pd {bs vs : List Value} (h : bs.length + vs.length ≤ 16) : (Pd bs).take bs.length ++ vs ++ (Pd bs).drop (bs.length + vs.length) = Pd (bs ++ vs) := by
  unfold Pd
  rw [List.take_left, List.drop_append, List.drop_eq_nil_of_le (by omega), List.nil_append, List.drop_replicate, List.length_append]
  congr 2; omega
theorem own_us {vs : List Value} {d : Value} {n : Nat} (h : n = vs.length) : vs = (List.range n).map fun i => vs.getD ((0 : Int32).toNatClampNeg + i) d := by
  subst h
  apply List.ext_getElem?
  intro i
  have e : (0 : Int32).toNatClampNeg = 0 := by decide
  simp only [e, Nat.zero_add, List.getElem?_map]
  by_cases hi : i < vs.length
  · rw [List.getElem?_eq_getElem hi, List.getElem?_range hi]
    simp [List.getD_eq_getElem?_getD, List.getElem?_eq_getElem hi]
  · rw [List.getElem?_eq_none (by omega), List.getElem?_eq_none (by simp; omega)]; rfl
theorem own_us2 {bs : List Value} {n : Nat} (h : n = bs.length) : bs = (List.range n).map fun i => (Pd bs).getD ((0 : Int32).toNatClampNeg + i) (.int 0) := by
  subst h
  apply List.ext_getElem?
  intro i
  have e : (0 : Int32).toNatClampNeg = 0 := by decide
  simp only [e, Nat.zero_add, List.getElem?_map]
  by_cases hi : i < bs.length
  · rw [List.getElem?_eq_getElem hi, List.getElem?_range hi]
    simp [Pd, List.getD_eq_getElem?_getD, List.getElem?_append_left hi, List.getElem?_eq_getElem hi]
  · rw [List.getElem?_eq_none (by omega), List.getElem?_eq_none (by simp; omega)]; rfl
theorem own_rep {bs : List Value} {z : Int32} (h : z.toNatClampNeg = bs.length) : (List.replicate z.toNatClampNeg (.int 0) : List Value).take (0 : Int32).toNatClampNeg ++ bs ++ (List.replicate z.toNatClampNeg (.int 0) : List Value).drop ((0 : Int32).toNatClampNeg + z.toNatClampNeg) = bs := by
  have e : (0 : Int32).toNatClampNeg = 0 := by decide
  rw [e, Nat.zero_add, List.take_zero, List.nil_append, List.drop_eq_nil_of_le (by simp), List.append_nil]
theorem own_mc {c z : Int32} {bs vs : List Value} {m m' : Nat} (h : Ln c bs m) (g : Ln z vs m') (q : m + m' ≤ 16) : ¬ ((0 : Int32) < ((c + z) - (16 : Int32))) := by
  have a := (h.add g (by omega)).toI
  have e := c_isub (c + z) 16
  have r := rng32 (c + z - 16)
  rw [i32lt, show (0 : Int32).toInt = 0 from by decide]
  rw [show (16 : Int32).toInt = 16 from by decide] at e
  omega
theorem own_shr0 (x : Int32) : x >>> ((0 : Int32) &&& 31) = x := by rw [show ((0 : Int32) &&& 31) = 0 from by decide]; exact Int32.shiftRight_zero
theorem own_shl0 (x : Int32) : x <<< ((0 : Int32) &&& 31) = x := by rw [show ((0 : Int32) &&& 31) = 0 from by decide]; exact Int32.shiftLeft_zero
theorem own_sub0 (x : Int32) : x - (0 : Int32) = x := Int32.sub_zero x

theorem d17_0 : decode jdk_42_method_152_code 0 = .ok (.getstatic 38, 3) := by decide +kernel
theorem d17_3 : decode jdk_42_method_152_code 3 = .ok (.ifCond .eq 10, 3) := by decide +kernel
theorem d17_6 : decode jdk_42_method_152_code 6 = .ok (.aload_n 0, 1) := by decide +kernel
theorem d17_7 : decode jdk_42_method_152_code 7 = .ok (.getfield 15, 3) := by decide +kernel
theorem d17_10 : decode jdk_42_method_152_code 10 = .ok (.goto 4, 3) := by decide +kernel
theorem d17_14 : decode jdk_42_method_152_code 14 = .ok (.ireturn, 1) := by decide +kernel
theorem pn_java_lang_String : plainName "java/lang/String" = true := by first | (simp [plainName, overriddenIn]; done) | decide +kernel
theorem ef_coder (m : MethodId) (a0 : Addr) : entryFrame m #[(.ref a0)] 1 = mkF m 0 #[.val (.ref a0)] [] := by first | (simp [entryFrame, mkF, argsToLocals, Value.category]; done) | rfl
def Q_coder (Z : State) (a0 : Addr) (cs : Int32) (h0 : Heap) (n0 : Nat) (v : Option Value) (h : Heap) (L : List Loc) : Prop := v = some (.int 0) ∧ Fr n0 L ∧ h = h0
set_option maxRecDepth 65536 in
set_option maxHeartbeats 40000000 in
theorem coder (l : Launch) (Z : State) (av0 : Array Value) (hw : ∀ d ∈ tables_1, d.before av0 Z = true) (ws : List Jvm.Cond) (a0 : Addr) (cs : Int32) (h0 : Heap) (n0 : Nat) (Z0 : n0 ≤ h0.size) (p0_O : Old Z n0 h0) (p1_S : Sta Z Z.heap "java/lang/String" "COMPACT_STRINGS" "Z" (.int cs)) (hcs : ¬ (cs = (0 : Int32))) (p3_F : Fld Z h0 a0 "java/lang/String" "coder" "B" (.int 0)) :
    MetFree l (⟨"java/lang/String", "coder", "()B"⟩ : MethodName) (head1 (Jvm.Cond.code (⟨"java/lang/String", "coder", "()B"⟩ : MethodName) jdk_42_method_152_code 1 (some .byte) :: ws) ({ frames := 0, cells := 0, slots := 0, locals := 0 } : Room)) (fun a U => a = #[(.ref a0)] ∧ Z.Warmed39 U.vm ∧ U.heap = h0) (fun _ _ _ _ _ => True) (fun _ U o U' => ∃ v L, o = .returned v ∧ Q_coder Z a0 cs h0 n0 v U'.heap L ∧ FrameEnd U o U' L ({ frames := 0, cells := 0, slots := 0, locals := 0 } : Room).cells ({ frames := 0, cells := 0, slots := 0, locals := 0 } : Room).slots) := by
  refine MetFree.of_bodySF (plainFor_of_name pn_java_lang_String) hisR ?_
  intro p e s m args below meth c s₁ Bd hml0 hP hK
  obtain ⟨rfl, hZ, hh⟩ := hP
  have hx := Bd.exec
  have hby := Bd.bytes
  have hml : c.maxLocals = 1 := hml0
  have hown : s.vm.findClass "java/lang/String" = some m.cls := findClass_of_methodNamed Bd.named
  have hnm := (name_of_methodNamed Bd.named Bd.method).1
  have X0 : Stand p l e ({ frames := 0, cells := 0, slots := 0, locals := 0 } : Room) s m #[(.ref a0)] below meth c s₁ [] 0 0 := Stand.of_body Bd
  have e0 : s₁.heap = h0 := by rw [← hh, Bd.state]; rfl
  have N0 := Fr.nil n0
  have pre0 : ∀ tz_, Steps p.tables e below (s₁.setTop (mkF m 0 #[.val (.ref a0)] [])) tz_ → Steps p.tables e below (s₁.setTop (entryFrame m #[(.ref a0)] 1)) tz_ := fun tz_ kz_ => castTop (ef_coder m a0) kz_
  obtain ⟨T31, X31, e31, st31⟩ := getS2 X0 hx hZ hown (host := "") (Or.inl (hw _ (mg (i := 8) rfl))) Via.refl e0 (p1_S.ext p0_O.2) (g := (mkF m 0 #[.val (.ref a0)] [])) rfl (hb hby d17_0)
  obtain ⟨T32, X32, e32, st32⟩ := getF X31 hx hZ hown (host := "") (Or.inl (hw _ (mg (i := 28) rfl))) Via.refl e31 p3_F (g := (mkF m 7 #[.val (.ref a0)] [(.ref a0)])) rfl rfl (hb hby d17_7)
  obtain ⟨fs, hrL, hrun, hended, hW, hsame⟩ := X32.leave (v := some (.int 0)) (fun h => by rw [Bd.returns] at h; cases h)
  refine ⟨_, _, pre0 _ ?_, hrun, hended, _, _, rfl, ?_, ⟨_, rfl⟩, hW, hsame.mono (by decide) (by decide)⟩
  · show Steps p.tables e below (s₁.setTop (mkF m 0 #[.val (.ref a0)] [])) _
    refine st31 _ ?_
    show Steps p.tables e below (T31.setTop (mkF m 3 #[.val (.ref a0)] [(.int cs)])) _
    refine XS.ifNo X31.here hx rfl (hb hby d17_3) rfl ((if0 _ _).trans (feq hcs).1) ?_
    refine XS.aloadN X31.here hx rfl (hb hby d17_6) rfl rfl ?_
    show Steps p.tables e below (T31.setTop (mkF m 7 #[.val (.ref a0)] [(.ref a0)])) _
    refine st32 _ ?_
    refine XS.goto X32.here hx rfl (pc0 := 10) (pc' := 14) rfl (hb hby d17_10) (by decide) (by decide) ?_
    show Steps p.tables e below (T32.setTop (mkF m 14 #[.val (.ref a0)] [(.int 0)])) _
    exact retN X32 hx (t := .byte) Bd.returns (by simp) (hb hby d17_14) hrL
  · show Q_coder _ _ _ _ _ _  T32.heap _
    rw [e32]
    exact ⟨rfl, N0, rfl⟩
theorem d16_0 : decode jdk_42_method_54_code 0 = .ok (.aload_n 0, 1) := by decide +kernel
theorem d16_1 : decode jdk_42_method_54_code 1 = .ok (.getfield 9, 3) := by decide +kernel
theorem d16_4 : decode jdk_42_method_54_code 4 = .ok (.arraylength, 1) := by decide +kernel
theorem d16_5 : decode jdk_42_method_54_code 5 = .ok (.aload_n 0, 1) := by decide +kernel
theorem d16_6 : decode jdk_42_method_54_code 6 = .ok (.invokevirtual 335, 3) := by decide +kernel
theorem pd_14 : parseMethodDescriptor "()B" = some ⟨[], some .byte⟩ := by decide +kernel
theorem d16_9 : decode jdk_42_method_54_code 9 = .ok (.ishr, 1) := by decide +kernel
theorem d16_10 : decode jdk_42_method_54_code 10 = .ok (.ireturn, 1) := by decide +kernel
theorem ef_slen (m : MethodId) (a0 : Addr) : entryFrame m #[(.ref a0)] 1 = mkF m 0 #[.val (.ref a0)] [] := by first | (simp [entryFrame, mkF, argsToLocals, Value.category]; done) | rfl
def Q_slen (Z : State) (a0 : Addr) (va : Addr) (ka : ClassId) (z : Int32) (vs : List Value) (cs : Int32) (h0 : Heap) (n0 : Nat) (v : Option Value) (h : Heap) (L : List Loc) : Prop := v = some (.int z) ∧ Fr n0 L ∧ h = h0
set_option maxRecDepth 65536 in
set_option maxHeartbeats 40000000 in
theorem slen (l : Launch) (Z : State) (av0 : Array Value) (hw : ∀ d ∈ tables_1, d.before av0 Z = true) (ws : List Jvm.Cond) (a0 : Addr) (va : Addr) (ka : ClassId) (z : Int32) (vs : List Value) (cs : Int32) (h0 : Heap) (n0 : Nat) (Z0 : n0 ≤ h0.size) (p0_O : Old Z n0 h0) (p1_S : Sta Z Z.heap "java/lang/String" "COMPACT_STRINGS" "Z" (.int cs)) (hcs : ¬ (cs = (0 : Int32))) (p3_E : Exa Z h0 a0 "java/lang/String") (p4_F : Fld Z h0 a0 "java/lang/String" "coder" "B" (.int 0)) (p5_F : Fld Z h0 a0 "java/lang/String" "value" "[B" (.ref va)) (p6_A : Arv Z h0 va ka .byte z vs (.int 0)) :
    MetFree l (⟨"java/lang/String", "length", "()I"⟩ : MethodName) (head1 (Jvm.Cond.code (⟨"java/lang/String", "length", "()I"⟩ : MethodName) jdk_42_method_54_code 1 (some .int) :: ws) ({ frames := 1, cells := 0, slots := 0, locals := 13 } : Room)) (fun a U => a = #[(.ref a0)] ∧ Z.Warmed39 U.vm ∧ U.heap = h0) (fun _ _ _ _ _ => True) (fun _ U o U' => ∃ v L, o = .returned v ∧ Q_slen Z a0 va ka z vs cs h0 n0 v U'.heap L ∧ FrameEnd U o U' L ({ frames := 1, cells := 0, slots := 0, locals := 13 } : Room).cells ({ frames := 1, cells := 0, slots := 0, locals := 13 } : Room).slots) := by
  refine MetFree.of_bodySF (plainFor_of_name pn_java_lang_String) hisR ?_
  intro p e s m args below meth c s₁ Bd hml0 hP hK
  obtain ⟨rfl, hZ, hh⟩ := hP
  have hx := Bd.exec
  have hby := Bd.bytes
  have hml : c.maxLocals = 1 := hml0
  have hown : s.vm.findClass "java/lang/String" = some m.cls := findClass_of_methodNamed Bd.named
  have hnm := (name_of_methodNamed Bd.named Bd.method).1
  have X0 : Stand p l e ({ frames := 1, cells := 0, slots := 0, locals := 13 } : Room) s m #[(.ref a0)] below meth c s₁ [] 0 0 := Stand.of_body Bd
  have e0 : s₁.heap = h0 := by rw [← hh, Bd.state]; rfl
  have N0 := Fr.nil n0
  have pre0 : ∀ tz_, Steps p.tables e below (s₁.setTop (mkF m 0 #[.val (.ref a0)] [])) tz_ → Steps p.tables e below (s₁.setTop (entryFrame m #[(.ref a0)] 1)) tz_ := fun tz_ kz_ => castTop (ef_slen m a0) kz_
  obtain ⟨T31, X31, e31, st31⟩ := getF X0 hx hZ hown (host := "") (Or.inl (hw _ (mg (i := 26) rfl))) Via.refl e0 p5_F (g := (mkF m 1 #[.val (.ref a0)] [(.ref a0)])) rfl rfl (hb hby d16_1)
  obtain ⟨cl32, Ar32, -, qs32, qn32, -, -⟩ := id p6_A
  -- pc 6: String.coder
  obtain ⟨cq33, kq33, q33a, q33b, q33c⟩ := isOf hZ e31 p3_E
  obtain ⟨_, _, ⟨T33, L33, k33, n33⟩, -, X33, ⟨Lc33, hQ33, l33, y33, z33⟩, st33⟩ := X31.virtualBack hx (y := (⟨"java/lang/String", "coder", "()B"⟩ : MethodName)) (z := (⟨"java/lang/String", "coder", "()B"⟩ : MethodName)) hown (mvT hZ (hw _ (mg (i := 97) rfl))) (mvT hZ (hw _ (mg (i := 98) rfl))) (notFace_of_selects (args := #[]) (mvT hZ (hw _ (mg (i := 100) rfl)))) (mvT hZ (hw _ (mg (i := 100) rfl))) (mvT hZ (hw _ (mg (i := 99) rfl))) (by decide) (backOf (W := 1) (coder l Z av0 hw [] a0 cs h0 n0 (own_le p0_O) p0_O p1_S (hcs : ¬ (cs = (0 : Int32))) p4_F) hZ (hw _ (mg (i := 101) rfl)) (hw _ (mg (i := 6) rfl)) (by decide) (by decide)) q33a q33c (g := (mkF m 6 #[.val (.ref a0)] [(.ref a0), (.int z)])) rfl (by rw [hml]; rfl) (Steps.refl _) (argsL := []) (rest := [(.int z)]) (lenOf pd_14 rfl) rfl (by show 2 * 0 + _ ≤ _; exact Nat.le_of_eq rfl) (hb hby d16_6) (fun vmx hWx => ⟨rfl, e31, (by decide : 0 + 0 ≤ _), (by decide : 0 + 0 ≤ _)⟩)
  dsimp only [Pt.U, Pt.locs, Pt.cells, Pt.slots] at X33 l33 y33 z33 st33 hQ33
  subst l33 y33 z33
  obtain ⟨rv33, Nq33, Kq33⟩ := hQ33
  subst rv33
  have N33 := Fr.app N0 Nq33
  obtain ⟨fs, hrL, hrun, hended, hW, hsame⟩ := X33.leave (v := some (.int z)) (fun h => by rw [Bd.returns] at h; cases h)
  refine ⟨_, _, pre0 _ ?_, hrun, hended, _, _, rfl, ?_, ⟨_, rfl⟩, hW, hsame.mono (by decide) (by decide)⟩
  · show Steps p.tables e below (s₁.setTop (mkF m 0 #[.val (.ref a0)] [])) _
    refine XS.aloadN X0.here hx rfl (hb hby d16_0) rfl rfl ?_
    show Steps p.tables e below (s₁.setTop (mkF m 1 #[.val (.ref a0)] [(.ref a0)])) _
    refine st31 _ ?_
    show Steps p.tables e below (T31.setTop (mkF m 4 #[.val (.ref a0)] [(.ref va)])) _
    refine X31.arraylength hx (by rw [e31]; exact Ar32.1) (State.isArrayOf_alike hZ.alike Ar32.2.1) (g := (mkF m 4 #[.val (.ref a0)] [(.ref va)])) rfl rfl (hb hby d16_4) _ ?_
    rw [len_of qs32 qn32]
    show Steps p.tables e below (T31.setTop (mkF m 5 #[.val (.ref a0)] [(.int z)])) _
    refine XS.aloadN X31.here hx rfl (hb hby d16_5) rfl rfl ?_
    show Steps p.tables e below (T31.setTop (mkF m 6 #[.val (.ref a0)] [(.ref a0), (.int z)])) _
    refine st33.trans ?_
    show Steps p.tables e below (T33.setTop (mkF m 9 #[.val (.ref a0)] [(.int 0), (.int z)])) _
    refine XS.ishr X33.here hx rfl (hb hby d16_9) rfl ?_
    show Steps p.tables e below (T33.setTop (mkF m 10 #[.val (.ref a0)] [(.int (z >>> ((0 : Int32) &&& 31)))])) _
    rw [own_shr0]
    show Steps p.tables e below (T33.setTop (mkF m 10 #[.val (.ref a0)] [(.int z)])) _
    exact retI X33 hx Bd.returns (hb hby d16_10) hrL
  · show Q_slen _ _ _ _ _ _ _ _ _ _  T33.heap _
    rw [Kq33]
    exact ⟨rfl, N33, rfl⟩
theorem d18_0 : decode jdk_68_method_9_code 0 = .ok (.aload_n 0, 1) := by decide +kernel
theorem d18_1 : decode jdk_68_method_9_code 1 = .ok (.getfield 15, 3) := by decide +kernel
theorem d18_4 : decode jdk_68_method_9_code 4 = .ok (.arraylength, 1) := by decide +kernel
theorem d18_5 : decode jdk_68_method_9_code 5 = .ok (.aload_n 0, 1) := by decide +kernel
theorem d18_6 : decode jdk_68_method_9_code 6 = .ok (.getfield 22, 3) := by decide +kernel
theorem d18_9 : decode jdk_68_method_9_code 9 = .ok (.ishr, 1) := by decide +kernel
theorem d18_10 : decode jdk_68_method_9_code 10 = .ok (.istore_n 2, 1) := by decide +kernel
theorem d18_11 : decode jdk_68_method_9_code 11 = .ok (.iload_n 1, 1) := by decide +kernel
theorem d18_12 : decode jdk_68_method_9_code 12 = .ok (.iload_n 2, 1) := by decide +kernel
theorem d18_13 : decode jdk_68_method_9_code 13 = .ok (.isub, 1) := by decide +kernel
theorem d18_14 : decode jdk_68_method_9_code 14 = .ok (.ifCond .le 24, 3) := by decide +kernel
theorem d18_38 : decode jdk_68_method_9_code 38 = .ok (.return_, 1) := by decide +kernel
theorem pn_java_lang_AbstractStringBuilder : plainName "java/lang/AbstractStringBuilder" = true := by first | (simp [plainName, overriddenIn]; done) | decide +kernel
theorem ef_eci (m : MethodId) (a0 : Addr) (mc : Int32) : entryFrame m #[(.ref a0), (.int mc)] 3 = mkF m 0 #[.val (.ref a0), .val (.int mc), .unset] [] := by first | (simp [entryFrame, mkF, argsToLocals, Value.category]; done) | rfl
def Q_eci (Z : State) (a0 : Addr) (mc : Int32) (arr : Addr) (kr : ClassId) (us : List Value) (h0 : Heap) (n0 : Nat) (v : Option Value) (h : Heap) (L : List Loc) : Prop := v = none ∧ Fr n0 L ∧ h = h0
set_option maxRecDepth 65536 in
set_option maxHeartbeats 40000000 in
theorem eci (l : Launch) (Z : State) (av0 : Array Value) (hw : ∀ d ∈ tables_1, d.before av0 Z = true) (ws : List Jvm.Cond) (a0 : Addr) (mc : Int32) (arr : Addr) (kr : ClassId) (us : List Value) (h0 : Heap) (n0 : Nat) (Z0 : n0 ≤ h0.size) (p0_F : Fld Z h0 a0 "java/lang/AbstractStringBuilder" "value" "[B" (.ref arr)) (p1_F : Fld Z h0 a0 "java/lang/AbstractStringBuilder" "coder" "B" (.int 0)) (p2_A : Arv Z h0 arr kr .byte (16 : Int32) us (.int 0)) (hmc : ¬ ((0 : Int32) < (mc - (16 : Int32)))) :
    MetFree l (⟨"java/lang/AbstractStringBuilder", "ensureCapacityInternal", "(I)V"⟩ : MethodName) (head1 (Jvm.Cond.code (⟨"java/lang/AbstractStringBuilder", "ensureCapacityInternal", "(I)V"⟩ : MethodName) jdk_68_method_9_code 3 none :: ws) ({ frames := 0, cells := 0, slots := 0, locals := 0 } : Room)) (fun a U => a = #[(.ref a0), (.int mc)] ∧ Z.Warmed39 U.vm ∧ U.heap = h0) (fun _ _ _ _ _ => True) (fun _ U o U' => ∃ v L, o = .returned v ∧ Q_eci Z a0 mc arr kr us h0 n0 v U'.heap L ∧ FrameEnd U o U' L ({ frames := 0, cells := 0, slots := 0, locals := 0 } : Room).cells ({ frames := 0, cells := 0, slots := 0, locals := 0 } : Room).slots) := by
  refine MetFree.of_bodySF (plainFor_of_name pn_java_lang_AbstractStringBuilder) hisR ?_
  intro p e s m args below meth c s₁ Bd hml0 hP hK
  obtain ⟨rfl, hZ, hh⟩ := hP
  have hx := Bd.exec
  have hby := Bd.bytes
  have hml : c.maxLocals = 3 := hml0
  have hown : s.vm.findClass "java/lang/AbstractStringBuilder" = some m.cls := findClass_of_methodNamed Bd.named
  have hnm := (name_of_methodNamed Bd.named Bd.method).1
  have X0 : Stand p l e ({ frames := 0, cells := 0, slots := 0, locals := 0 } : Room) s m #[(.ref a0), (.int mc)] below meth c s₁ [] 0 0 := Stand.of_body Bd
  have e0 : s₁.heap = h0 := by rw [← hh, Bd.state]; rfl
  have N0 := Fr.nil n0
  have pre0 : ∀ tz_, Steps p.tables e below (s₁.setTop (mkF m 0 #[.val (.ref a0), .val (.int mc), .unset] [])) tz_ → Steps p.tables e below (s₁.setTop (entryFrame m #[(.ref a0), (.int mc)] 3)) tz_ := fun tz_ kz_ => castTop (ef_eci m a0 mc) kz_
  obtain ⟨T31, X31, e31, st31⟩ := getF X0 hx hZ hown (host := "") (Or.inl (hw _ (mg (i := 78) rfl))) Via.refl e0 p0_F (g := (mkF m 1 #[.val (.ref a0), .val (.int mc), .unset] [(.ref a0)])) rfl rfl (hb hby d18_1)
  obtain ⟨cl32, Ar32, -, qs32, qn32, -, -⟩ := id p2_A
  obtain ⟨T33, X33, e33, st33⟩ := getF X31 hx hZ hown (host := "") (Or.inl (hw _ (mg (i := 80) rfl))) Via.refl e31 p1_F (g := (mkF m 6 #[.val (.ref a0), .val (.int mc), .unset] [(.ref a0), (.int 16)])) rfl rfl (hb hby d18_6)
  obtain ⟨fs, hrL, hrun, hended, hW, hsame⟩ := X33.leave (v := none) (fun _ => rfl)
  refine ⟨_, _, pre0 _ ?_, hrun, hended, _, _, rfl, ?_, ⟨_, rfl⟩, hW, hsame.mono (by decide) (by decide)⟩
  · show Steps p.tables e below (s₁.setTop (mkF m 0 #[.val (.ref a0), .val (.int mc), .unset] [])) _
    refine XS.aloadN X0.here hx rfl (hb hby d18_0) rfl rfl ?_
    show Steps p.tables e below (s₁.setTop (mkF m 1 #[.val (.ref a0), .val (.int mc), .unset] [(.ref a0)])) _
    refine st31 _ ?_
    show Steps p.tables e below (T31.setTop (mkF m 4 #[.val (.ref a0), .val (.int mc), .unset] [(.ref arr)])) _
    refine X31.arraylength hx (by rw [e31]; exact Ar32.1) (State.isArrayOf_alike hZ.alike Ar32.2.1) (g := (mkF m 4 #[.val (.ref a0), .val (.int mc), .unset] [(.ref arr)])) rfl rfl (hb hby d18_4) _ ?_
    rw [len_of qs32 qn32]
    show Steps p.tables e below (T31.setTop (mkF m 5 #[.val (.ref a0), .val (.int mc), .unset] [(.int 16)])) _
    refine XS.aloadN X31.here hx rfl (hb hby d18_5) rfl rfl ?_
    show Steps p.tables e below (T31.setTop (mkF m 6 #[.val (.ref a0), .val (.int mc), .unset] [(.ref a0), (.int 16)])) _
    refine st33 _ ?_
    show Steps p.tables e below (T33.setTop (mkF m 9 #[.val (.ref a0), .val (.int mc), .unset] [(.int 0), (.int 16)])) _
    refine XS.ishr X33.here hx rfl (hb hby d18_9) rfl ?_
    show Steps p.tables e below (T33.setTop (mkF m 10 #[.val (.ref a0), .val (.int mc), .unset] [(.int ((16 : Int32) >>> ((0 : Int32) &&& 31)))])) _
    rw [show ((16 : Int32) >>> ((0 : Int32) &&& 31)) = (16 : Int32) from by decide]
    refine XS.istoreN X33.here hx rfl (hb hby d18_10) rfl (l' := #[.val (.ref a0), .val (.int mc), .val (.int 16)]) rfl ?_
    show Steps p.tables e below (T33.setTop (mkF m 11 #[.val (.ref a0), .val (.int mc), .val (.int 16)] [])) _
    refine XS.iloadN X33.here hx rfl (hb hby d18_11) rfl ?_
    refine XS.iloadN X33.here hx rfl (hb hby d18_12) rfl ?_
    show Steps p.tables e below (T33.setTop (mkF m 13 #[.val (.ref a0), .val (.int mc), .val (.int 16)] [(.int 16), (.int mc)])) _
    refine XS.isub X33.here hx rfl (hb hby d18_13) rfl ?_
    show Steps p.tables e below (T33.setTop (mkF m 14 #[.val (.ref a0), .val (.int mc), .val (.int 16)] [(.int (mc - (16 : Int32)))])) _
    refine XS.ifYes X33.here hx rfl (pc0 := 14) (pc' := 38) rfl (hb hby d18_14) rfl ((if0 _ _).trans (flt hmc).2.2.2) (by decide) (by decide) ?_
    show Steps p.tables e below (T33.setTop (mkF m 38 #[.val (.ref a0), .val (.int mc), .val (.int 16)] [])) _
    exact X33.returnOut hx Bd.returns (hb hby d18_38) hrL
  · show Q_eci _ _ _ _ _ _ _ _ _  T33.heap _
    rw [e33]
    exact ⟨rfl, N0, rfl⟩
theorem d20_0 : decode jdk_68_method_71_code 0 = .ok (.getstatic 18, 3) := by decide +kernel
theorem d20_3 : decode jdk_68_method_71_code 3 = .ok (.ifCond .eq 18, 3) := by decide +kernel
theorem d20_6 : decode jdk_68_method_71_code 6 = .ok (.aload_n 0, 1) := by decide +kernel
theorem d20_7 : decode jdk_68_method_71_code 7 = .ok (.getfield 22, 3) := by decide +kernel
theorem d20_10 : decode jdk_68_method_71_code 10 = .ok (.aload_n 1, 1) := by decide +kernel
theorem d20_11 : decode jdk_68_method_71_code 11 = .ok (.invokevirtual 40, 3) := by decide +kernel
theorem d20_14 : decode jdk_68_method_71_code 14 = .ok (.if_icmp .eq 7, 3) := by decide +kernel
theorem d20_21 : decode jdk_68_method_71_code 21 = .ok (.return_, 1) := by decide +kernel
theorem ef_infl (m : MethodId) (a0 : Addr) (a1 : Addr) : entryFrame m #[(.ref a0), (.ref a1)] 2 = mkF m 0 #[.val (.ref a0), .val (.ref a1)] [] := by first | (simp [entryFrame, mkF, argsToLocals, Value.category]; done) | rfl
def Q_infl (Z : State) (a0 : Addr) (a1 : Addr) (cs : Int32) (h0 : Heap) (n0 : Nat) (v : Option Value) (h : Heap) (L : List Loc) : Prop := v = none ∧ Fr n0 L ∧ h = h0
set_option maxRecDepth 65536 in
set_option maxHeartbeats 40000000 in
theorem infl (l : Launch) (Z : State) (av0 : Array Value) (hw : ∀ d ∈ tables_1, d.before av0 Z = true) (ws : List Jvm.Cond) (a0 : Addr) (a1 : Addr) (cs : Int32) (h0 : Heap) (n0 : Nat) (Z0 : n0 ≤ h0.size) (p0_O : Old Z n0 h0) (p1_S : Sta Z Z.heap "java/lang/String" "COMPACT_STRINGS" "Z" (.int cs)) (hcs : ¬ (cs = (0 : Int32))) (p3_F : Fld Z h0 a0 "java/lang/AbstractStringBuilder" "coder" "B" (.int 0)) (p4_E : Exa Z h0 a1 "java/lang/String") (p5_F : Fld Z h0 a1 "java/lang/String" "coder" "B" (.int 0)) :
    MetFree l (⟨"java/lang/AbstractStringBuilder", "inflateIfNeededFor", "(Ljava/lang/String;)V"⟩ : MethodName) (head1 (Jvm.Cond.code (⟨"java/lang/AbstractStringBuilder", "inflateIfNeededFor", "(Ljava/lang/String;)V"⟩ : MethodName) jdk_68_method_71_code 2 none :: ws) ({ frames := 1, cells := 0, slots := 0, locals := 13 } : Room)) (fun a U => a = #[(.ref a0), (.ref a1)] ∧ Z.Warmed39 U.vm ∧ U.heap = h0) (fun _ _ _ _ _ => True) (fun _ U o U' => ∃ v L, o = .returned v ∧ Q_infl Z a0 a1 cs h0 n0 v U'.heap L ∧ FrameEnd U o U' L ({ frames := 1, cells := 0, slots := 0, locals := 13 } : Room).cells ({ frames := 1, cells := 0, slots := 0, locals := 13 } : Room).slots) := by
  refine MetFree.of_bodySF (plainFor_of_name pn_java_lang_AbstractStringBuilder) hisR ?_
  intro p e s m args below meth c s₁ Bd hml0 hP hK
  obtain ⟨rfl, hZ, hh⟩ := hP
  have hx := Bd.exec
  have hby := Bd.bytes
  have hml : c.maxLocals = 2 := hml0
  have hown : s.vm.findClass "java/lang/AbstractStringBuilder" = some m.cls := findClass_of_methodNamed Bd.named
  have hnm := (name_of_methodNamed Bd.named Bd.method).1
  have X0 : Stand p l e ({ frames := 1, cells := 0, slots := 0, locals := 13 } : Room) s m #[(.ref a0), (.ref a1)] below meth c s₁ [] 0 0 := Stand.of_body Bd
  have e0 : s₁.heap = h0 := by rw [← hh, Bd.state]; rfl
  have N0 := Fr.nil n0
  have pre0 : ∀ tz_, Steps p.tables e below (s₁.setTop (mkF m 0 #[.val (.ref a0), .val (.ref a1)] [])) tz_ → Steps p.tables e below (s₁.setTop (entryFrame m #[(.ref a0), (.ref a1)] 2)) tz_ := fun tz_ kz_ => castTop (ef_infl m a0 a1) kz_
  obtain ⟨T31, X31, e31, st31⟩ := getS2 X0 hx hZ hown (host := "") (Or.inl (hw _ (mg (i := 77) rfl))) Via.refl e0 (p1_S.ext p0_O.2) (g := (mkF m 0 #[.val (.ref a0), .val (.ref a1)] [])) rfl (hb hby d20_0)
  obtain ⟨T32, X32, e32, st32⟩ := getF X31 hx hZ hown (host := "") (Or.inl (hw _ (mg (i := 80) rfl))) Via.refl e31 p3_F (g := (mkF m 7 #[.val (.ref a0), .val (.ref a1)] [(.ref a0)])) rfl rfl (hb hby d20_7)
  -- pc 11: String.coder
  obtain ⟨cq33, kq33, q33a, q33b, q33c⟩ := isOf hZ e32 p4_E
  obtain ⟨_, _, ⟨T33, L33, k33, n33⟩, -, X33, ⟨Lc33, hQ33, l33, y33, z33⟩, st33⟩ := X32.virtualBack hx (y := (⟨"java/lang/String", "coder", "()B"⟩ : MethodName)) (z := (⟨"java/lang/String", "coder", "()B"⟩ : MethodName)) hown (mvT hZ (hw _ (mg (i := 119) rfl))) (mvT hZ (hw _ (mg (i := 98) rfl))) (notFace_of_selects (args := #[]) (mvT hZ (hw _ (mg (i := 100) rfl)))) (mvT hZ (hw _ (mg (i := 100) rfl))) (mvT hZ (hw _ (mg (i := 99) rfl))) (by decide) (backOf (W := 1) (coder l Z av0 hw [] a1 cs h0 n0 (own_le p0_O) p0_O p1_S (hcs : ¬ (cs = (0 : Int32))) p5_F) hZ (hw _ (mg (i := 101) rfl)) (hw _ (mg (i := 6) rfl)) (by decide) (by decide)) q33a q33c (g := (mkF m 11 #[.val (.ref a0), .val (.ref a1)] [(.ref a1), (.int 0)])) rfl (by rw [hml]; rfl) (Steps.refl _) (argsL := []) (rest := [(.int 0)]) (lenOf pd_14 rfl) rfl (by show 2 * 0 + _ ≤ _; exact Nat.le_of_eq rfl) (hb hby d20_11) (fun vmx hWx => ⟨rfl, e32, (by decide : 0 + 0 ≤ _), (by decide : 0 + 0 ≤ _)⟩)
  dsimp only [Pt.U, Pt.locs, Pt.cells, Pt.slots] at X33 l33 y33 z33 st33 hQ33
  subst l33 y33 z33
  obtain ⟨rv33, Nq33, Kq33⟩ := hQ33
  subst rv33
  have N33 := Fr.app N0 Nq33
  obtain ⟨fs, hrL, hrun, hended, hW, hsame⟩ := X33.leave (v := none) (fun _ => rfl)
  refine ⟨_, _, pre0 _ ?_, hrun, hended, _, _, rfl, ?_, ⟨_, rfl⟩, hW, hsame.mono (by decide) (by decide)⟩
  · show Steps p.tables e below (s₁.setTop (mkF m 0 #[.val (.ref a0), .val (.ref a1)] [])) _
    refine st31 _ ?_
    show Steps p.tables e below (T31.setTop (mkF m 3 #[.val (.ref a0), .val (.ref a1)] [(.int cs)])) _
    refine XS.ifNo X31.here hx rfl (hb hby d20_3) rfl ((if0 _ _).trans (feq hcs).1) ?_
    refine XS.aloadN X31.here hx rfl (hb hby d20_6) rfl rfl ?_
    show Steps p.tables e below (T31.setTop (mkF m 7 #[.val (.ref a0), .val (.ref a1)] [(.ref a0)])) _
    refine st32 _ ?_
    refine XS.aloadN X32.here hx rfl (hb hby d20_10) rfl rfl ?_
    show Steps p.tables e below (T32.setTop (mkF m 11 #[.val (.ref a0), .val (.ref a1)] [(.ref a1), (.int 0)])) _
    refine st33.trans ?_
    show Steps p.tables e below (T33.setTop (mkF m 14 #[.val (.ref a0), .val (.ref a1)] [(.int 0), (.int 0)])) _
    refine XS.icmpYes X33.here hx rfl (pc0 := 14) (pc' := 21) rfl (hb hby d20_14) rfl (teq (by decide : (0 : Int32) = (0 : Int32))).1 (by decide) (by decide) ?_
    show Steps p.tables e below (T33.setTop (mkF m 21 #[.val (.ref a0), .val (.ref a1)] [])) _
    exact X33.returnOut hx Bd.returns (hb hby d20_21) hrL
  · show Q_infl _ _ _ _ _ _ _  T33.heap _
    rw [Kq33]
    exact ⟨rfl, N33, rfl⟩
theorem d21_0 : decode jdk_42_method_147_code 0 = .ok (.aload_n 0, 1) := by decide +kernel
theorem d21_1 : decode jdk_42_method_147_code 1 = .ok (.invokevirtual 335, 3) := by decide +kernel
theorem d21_4 : decode jdk_42_method_147_code 4 = .ok (.iload_n 3, 1) := by decide +kernel
theorem d21_5 : decode jdk_42_method_147_code 5 = .ok (.if_icmp .ne 23, 3) := by decide +kernel
theorem d21_8 : decode jdk_42_method_147_code 8 = .ok (.aload_n 0, 1) := by decide +kernel
theorem d21_9 : decode jdk_42_method_147_code 9 = .ok (.getfield 9, 3) := by decide +kernel
theorem d21_12 : decode jdk_42_method_147_code 12 = .ok (.iconst 0, 1) := by decide +kernel
theorem d21_13 : decode jdk_42_method_147_code 13 = .ok (.aload_n 1, 1) := by decide +kernel
theorem d21_14 : decode jdk_42_method_147_code 14 = .ok (.iload_n 2, 1) := by decide +kernel
theorem d21_15 : decode jdk_42_method_147_code 15 = .ok (.iload_n 3, 1) := by decide +kernel
theorem d21_16 : decode jdk_42_method_147_code 16 = .ok (.ishl, 1) := by decide +kernel
theorem d21_17 : decode jdk_42_method_147_code 17 = .ok (.aload_n 0, 1) := by decide +kernel
theorem d21_18 : decode jdk_42_method_147_code 18 = .ok (.getfield 9, 3) := by decide +kernel
theorem d21_21 : decode jdk_42_method_147_code 21 = .ok (.arraylength, 1) := by decide +kernel
theorem d21_22 : decode jdk_42_method_147_code 22 = .ok (.invokestatic 212, 3) := by decide +kernel
theorem d21_25 : decode jdk_42_method_147_code 25 = .ok (.goto 18, 3) := by decide +kernel
theorem d21_43 : decode jdk_42_method_147_code 43 = .ok (.return_, 1) := by decide +kernel
theorem ef_gby (m : MethodId) (a0 : Addr) (arr : Addr) (cnt : Int32) : entryFrame m #[(.ref a0), (.ref arr), (.int cnt), (.int 0)] 4 = mkF m 0 #[.val (.ref a0), .val (.ref arr), .val (.int cnt), .val (.int 0)] [] := by first | (simp [entryFrame, mkF, argsToLocals, Value.category]; done) | rfl
def Q_gby (Z : State) (a0 : Addr) (arr : Addr) (cnt : Int32) (va : Addr) (ka : ClassId) (z : Int32) (vs : List Value) (kr : ClassId) (bs : List Value) (cs : Int32) (h0 : Heap) (n0 : Nat) (v : Option Value) (h : Heap) (L : List Loc) : Prop := v = none ∧ Fr n0 L ∧ Keep h0 h [arr] ∧ Arv Z h arr kr .byte (16 : Int32) (Pd (bs ++ vs)) (.int 0)
set_option maxRecDepth 65536 in
set_option maxHeartbeats 40000000 in
theorem gby (l : Launch) (Z : State) (av0 : Array Value) (hw : ∀ d ∈ tables_1, d.before av0 Z = true) (ws : List Jvm.Cond) (a0 : Addr) (arr : Addr) (cnt : Int32) (va : Addr) (ka : ClassId) (z : Int32) (vs : List Value) (kr : ClassId) (bs : List Value) (cs : Int32) (h0 : Heap) (n0 : Nat) (Z0 : n0 ≤ h0.size) (p0_O : Old Z n0 h0) (p1_S : Sta Z Z.heap "java/lang/String" "COMPACT_STRINGS" "Z" (.int cs)) (hcs : ¬ (cs = (0 : Int32))) (p3_E : Exa Z h0 a0 "java/lang/String") (p4_F : Fld Z h0 a0 "java/lang/String" "coder" "B" (.int 0)) (p5_F : Fld Z h0 a0 "java/lang/String" "value" "[B" (.ref va)) (p6_A : Arv Z h0 va ka .byte z vs (.int 0)) (p7_A : Arv Z h0 arr kr .byte (16 : Int32) (Pd bs) (.int 0)) (p8_ne : va ≠ arr) (p9_g : n0 ≤ arr) (hbs : Ln cnt bs 6) (hvs : Ln z vs 2) :
    MetFree l (⟨"java/lang/String", "getBytes", "([BIB)V"⟩ : MethodName) (head1 (Jvm.Cond.code (⟨"java/lang/String", "getBytes", "([BIB)V"⟩ : MethodName) jdk_42_method_147_code 4 none :: ws) ({ frames := 1, cells := 0, slots := 0, locals := 18 } : Room)) (fun a U => a = #[(.ref a0), (.ref arr), (.int cnt), (.int 0)] ∧ Z.Warmed39 U.vm ∧ U.heap = h0) (fun _ _ _ _ _ => True) (fun _ U o U' => ∃ v L, o = .returned v ∧ Q_gby Z a0 arr cnt va ka z vs kr bs cs h0 n0 v U'.heap L ∧ FrameEnd U o U' L ({ frames := 1, cells := 0, slots := 0, locals := 18 } : Room).cells ({ frames := 1, cells := 0, slots := 0, locals := 18 } : Room).slots) := by
  refine MetFree.of_bodySF (plainFor_of_name pn_java_lang_String) hisR ?_
  intro p e s m args below meth c s₁ Bd hml0 hP hK
  obtain ⟨rfl, hZ, hh⟩ := hP
  have hx := Bd.exec
  have hby := Bd.bytes
  have hml : c.maxLocals = 4 := hml0
  have hown : s.vm.findClass "java/lang/String" = some m.cls := findClass_of_methodNamed Bd.named
  have hnm := (name_of_methodNamed Bd.named Bd.method).1
  have X0 : Stand p l e ({ frames := 1, cells := 0, slots := 0, locals := 18 } : Room) s m #[(.ref a0), (.ref arr), (.int cnt), (.int 0)] below meth c s₁ [] 0 0 := Stand.of_body Bd
  have e0 : s₁.heap = h0 := by rw [← hh, Bd.state]; rfl
  have N0 := Fr.nil n0
  have pre0 : ∀ tz_, Steps p.tables e below (s₁.setTop (mkF m 0 #[.val (.ref a0), .val (.ref arr), .val (.int cnt), .val (.int 0)] [])) tz_ → Steps p.tables e below (s₁.setTop (entryFrame m #[(.ref a0), (.ref arr), (.int cnt), (.int 0)] 4)) tz_ := fun tz_ kz_ => castTop (ef_gby m a0 arr cnt) kz_
  have K0 : Keep h0 h0 [arr] := Keep.refl h0 [arr]
  -- pc 1: String.coder
  obtain ⟨cq31, kq31, q31a, q31b, q31c⟩ := isOf hZ e0 p3_E
  obtain ⟨_, _, ⟨T31, L31, k31, n31⟩, -, X31, ⟨Lc31, hQ31, l31, y31, z31⟩, st31⟩ := X0.virtualBack hx (y := (⟨"java/lang/String", "coder", "()B"⟩ : MethodName)) (z := (⟨"java/lang/String", "coder", "()B"⟩ : MethodName)) hown (mvT hZ (hw _ (mg (i := 97) rfl))) (mvT hZ (hw _ (mg (i := 98) rfl))) (notFace_of_selects (args := #[]) (mvT hZ (hw _ (mg (i := 100) rfl)))) (mvT hZ (hw _ (mg (i := 100) rfl))) (mvT hZ (hw _ (mg (i := 99) rfl))) (by decide) (backOf (W := 0) (coder l Z av0 hw [] a0 cs h0 n0 (own_le p0_O) p0_O p1_S (hcs : ¬ (cs = (0 : Int32))) p4_F) hZ (hw _ (mg (i := 101) rfl)) (hw _ (mg (i := 6) rfl)) (by decide) (by decide)) q31a q31c (g := (mkF m 1 #[.val (.ref a0), .val (.ref arr), .val (.int cnt), .val (.int 0)] [(.ref a0)])) rfl (by rw [hml]; rfl) (Steps.refl _) (argsL := []) (rest := []) (lenOf pd_14 rfl) rfl (by show 2 * 0 + _ ≤ _; exact Nat.le_of_eq rfl) (hb hby d21_1) (fun vmx hWx => ⟨rfl, e0, (by decide : 0 + 0 ≤ _), (by decide : 0 + 0 ≤ _)⟩)
  dsimp only [Pt.U, Pt.locs, Pt.cells, Pt.slots] at X31 l31 y31 z31 st31 hQ31
  subst l31 y31 z31
  obtain ⟨rv31, Nq31, Kq31⟩ := hQ31
  subst rv31
  have N31 := Fr.app N0 Nq31
  obtain ⟨T32, X32, e32, st32⟩ := getF X31 hx hZ hown (host := "") (Or.inl (hw _ (mg (i := 26) rfl))) Via.refl Kq31 p5_F (g := (mkF m 9 #[.val (.ref a0), .val (.ref arr), .val (.int cnt), .val (.int 0)] [(.ref a0)])) rfl rfl (hb hby d21_9)
  obtain ⟨T33, X33, e33, st33⟩ := getF X32 hx hZ hown (host := "") (Or.inl (hw _ (mg (i := 26) rfl))) Via.refl e32 p5_F (g := (mkF m 18 #[.val (.ref a0), .val (.ref arr), .val (.int cnt), .val (.int 0)] [(.ref a0), (.int cnt), (.ref arr), (.int 0), (.ref va)])) rfl rfl (hb hby d21_18)
  obtain ⟨cl34, Ar34, -, qs34, qn34, -, -⟩ := id p6_A
  obtain ⟨T35, h35, L35, X35, e35, N35, K35, V35, st35⟩ := cpA X33 hx hZ hown (hw _ (mg (i := 125) rfl)) (hw _ (mg (i := 128) rfl)) (hw _ (mg (i := 126) rfl)) (hw _ (mg (i := 127) rfl)) e33 p6_A p7_A (Or.inl ⟨rfl, rfl⟩) (by decide) hbs.1 hvs.1 (by rw [(show (0 : Int32).toNatClampNeg = 0 from by decide)]; omega) (by rw [(show (16 : Int32).toNatClampNeg = 16 from by decide), hbs.2.1, hvs.2.1]; have := hbs.2.2; have := hvs.2.2; omega) (us := vs) (own_us hvs.2.1) (by rw [own_pdl (by have := hbs.2.2; omega), hbs.2.1, hvs.2.1]; have := hbs.2.2; have := hvs.2.2; omega) N31 p9_g (g := (mkF m 22 #[.val (.ref a0), .val (.ref arr), .val (.int cnt), .val (.int 0)] [(.int z), (.int cnt), (.ref arr), (.int 0), (.ref va)])) rfl (by rw [hml]; rfl) rfl (hb hby d21_22) (by decide) (W := 0) (by show 2 * 0 + _ ≤ _; exact Nat.le_of_eq rfl) (by decide)
  rw [hbs.2.1, hvs.2.1, own_pd (by have := hbs.2.2; have := hvs.2.2; omega)] at V35
  have K36 := K0.trans K35 (allS (Or.inl (List.mem_of_getElem? (i := 0) rfl)) all0)
  have O36 := p0_O.keep K35 (allS p9_g all0)
  obtain ⟨fs, hrL, hrun, hended, hW, hsame⟩ := X35.leave (v := none) (fun _ => rfl)
  refine ⟨_, _, pre0 _ ?_, hrun, hended, _, _, rfl, ?_, ⟨_, rfl⟩, hW, hsame.mono (by decide) (by decide)⟩
  · show Steps p.tables e below (s₁.setTop (mkF m 0 #[.val (.ref a0), .val (.ref arr), .val (.int cnt), .val (.int 0)] [])) _
    refine XS.aloadN X0.here hx rfl (hb hby d21_0) rfl rfl ?_
    show Steps p.tables e below (s₁.setTop (mkF m 1 #[.val (.ref a0), .val (.ref arr), .val (.int cnt), .val (.int 0)] [(.ref a0)])) _
    refine st31.trans ?_
    refine XS.iloadN X31.here hx rfl (hb hby d21_4) rfl ?_
    show Steps p.tables e below (T31.setTop (mkF m 5 #[.val (.ref a0), .val (.ref arr), .val (.int cnt), .val (.int 0)] [(.int 0), (.int 0)])) _
    refine XS.icmpNo X31.here hx rfl (hb hby d21_5) rfl (teq (by decide : (0 : Int32) = (0 : Int32))).2 ?_
    refine XS.aloadN X31.here hx rfl (hb hby d21_8) rfl rfl ?_
    show Steps p.tables e below (T31.setTop (mkF m 9 #[.val (.ref a0), .val (.ref arr), .val (.int cnt), .val (.int 0)] [(.ref a0)])) _
    refine st32 _ ?_
    refine XS.iconst X32.here hx rfl (hb hby d21_12) ?_
    show Steps p.tables e below (T32.setTop (mkF m 13 #[.val (.ref a0), .val (.ref arr), .val (.int cnt), .val (.int 0)] [(.int 0), (.ref va)])) _
    refine XS.aloadN X32.here hx rfl (hb hby d21_13) rfl rfl ?_
    refine XS.iloadN X32.here hx rfl (hb hby d21_14) rfl ?_
    refine XS.iloadN X32.here hx rfl (hb hby d21_15) rfl ?_
    show Steps p.tables e below (T32.setTop (mkF m 16 #[.val (.ref a0), .val (.ref arr), .val (.int cnt), .val (.int 0)] [(.int 0), (.int cnt), (.ref arr), (.int 0), (.ref va)])) _
    refine XS.ishl X32.here hx rfl (hb hby d21_16) rfl ?_
    show Steps p.tables e below (T32.setTop (mkF m 17 #[.val (.ref a0), .val (.ref arr), .val (.int cnt), .val (.int 0)] [(.int (cnt <<< ((0 : Int32) &&& 31))), (.ref arr), (.int 0), (.ref va)])) _
    rw [own_shl0]
    show Steps p.tables e below (T32.setTop (mkF m 17 #[.val (.ref a0), .val (.ref arr), .val (.int cnt), .val (.int 0)] [(.int cnt), (.ref arr), (.int 0), (.ref va)])) _
    refine XS.aloadN X32.here hx rfl (hb hby d21_17) rfl rfl ?_
    show Steps p.tables e below (T32.setTop (mkF m 18 #[.val (.ref a0), .val (.ref arr), .val (.int cnt), .val (.int 0)] [(.ref a0), (.int cnt), (.ref arr), (.int 0), (.ref va)])) _
    refine st33 _ ?_
    show Steps p.tables e below (T33.setTop (mkF m 21 #[.val (.ref a0), .val (.ref arr), .val (.int cnt), .val (.int 0)] [(.ref va), (.int cnt), (.ref arr), (.int 0), (.ref va)])) _
    refine X33.arraylength hx (by rw [e33]; exact Ar34.1) (State.isArrayOf_alike hZ.alike Ar34.2.1) (g := (mkF m 21 #[.val (.ref a0), .val (.ref arr), .val (.int cnt), .val (.int 0)] [(.ref va), (.int cnt), (.ref arr), (.int 0), (.ref va)])) rfl rfl (hb hby d21_21) _ ?_
    rw [len_of qs34 qn34]
    show Steps p.tables e below (T33.setTop (mkF m 22 #[.val (.ref a0), .val (.ref arr), .val (.int cnt), .val (.int 0)] [(.int z), (.int cnt), (.ref arr), (.int 0), (.ref va)])) _
    refine st35 _ ?_
    show Steps p.tables e below (T35.setTop (mkF m 25 #[.val (.ref a0), .val (.ref arr), .val (.int cnt), .val (.int 0)] [])) _
    refine XS.goto X35.here hx rfl (pc0 := 25) (pc' := 43) rfl (hb hby d21_25) (by decide) (by decide) ?_
    show Steps p.tables e below (T35.setTop (mkF m 43 #[.val (.ref a0), .val (.ref arr), .val (.int cnt), .val (.int 0)] [])) _
    exact X35.returnOut hx Bd.returns (hb hby d21_43) hrL
  · show Q_gby _ _ _ _ _ _ _ _ _ _ _ _ _ _  T35.heap _
    rw [e35]
    exact ⟨rfl, N35, K36, V35⟩
theorem d19_0 : decode jdk_68_method_73_code 0 = .ok (.aload_n 0, 1) := by decide +kernel
theorem d19_1 : decode jdk_68_method_73_code 1 = .ok (.aload_n 2, 1) := by decide +kernel
theorem d19_2 : decode jdk_68_method_73_code 2 = .ok (.invokevirtual 397, 3) := by decide +kernel
theorem pd_16 : parseMethodDescriptor "(Ljava/lang/String;)V" = some ⟨[(.object "java/lang/String")], none⟩ := by decide +kernel
theorem d19_5 : decode jdk_68_method_73_code 5 = .ok (.aload_n 2, 1) := by decide +kernel
theorem d19_6 : decode jdk_68_method_73_code 6 = .ok (.aload_n 0, 1) := by decide +kernel
theorem d19_7 : decode jdk_68_method_73_code 7 = .ok (.getfield 15, 3) := by decide +kernel
theorem d19_10 : decode jdk_68_method_73_code 10 = .ok (.iload_n 1, 1) := by decide +kernel
theorem d19_11 : decode jdk_68_method_73_code 11 = .ok (.aload_n 0, 1) := by decide +kernel
theorem d19_12 : decode jdk_68_method_73_code 12 = .ok (.getfield 22, 3) := by decide +kernel
theorem d19_15 : decode jdk_68_method_73_code 15 = .ok (.invokevirtual 399, 3) := by decide +kernel
theorem pd_17 : parseMethodDescriptor "([BIB)V" = some ⟨[(.array .byte), .int, .byte], none⟩ := by decide +kernel
theorem d19_18 : decode jdk_68_method_73_code 18 = .ok (.return_, 1) := by decide +kernel
theorem ef_psa (m : MethodId) (a0 : Addr) (cnt : Int32) (a2 : Addr) : entryFrame m #[(.ref a0), (.int cnt), (.ref a2)] 3 = mkF m 0 #[.val (.ref a0), .val (.int cnt), .val (.ref a2)] [] := by first | (simp [entryFrame, mkF, argsToLocals, Value.category]; done) | rfl
def Q_psa (Z : State) (a0 : Addr) (cnt : Int32) (a2 : Addr) (va : Addr) (ka : ClassId) (z : Int32) (vs : List Value) (arr : Addr) (kr : ClassId) (bs : List Value) (cs : Int32) (h0 : Heap) (n0 : Nat) (v : Option Value) (h : Heap) (L : List Loc) : Prop := v = none ∧ Fr n0 L ∧ Keep h0 h [arr] ∧ Arv Z h arr kr .byte (16 : Int32) (Pd (bs ++ vs)) (.int 0)
set_option maxRecDepth 65536 in
set_option maxHeartbeats 40000000 in
theorem psa (l : Launch) (Z : State) (av0 : Array Value) (hw : ∀ d ∈ tables_1, d.before av0 Z = true) (ws : List Jvm.Cond) (a0 : Addr) (cnt : Int32) (a2 : Addr) (va : Addr) (ka : ClassId) (z : Int32) (vs : List Value) (arr : Addr) (kr : ClassId) (bs : List Value) (cs : Int32) (h0 : Heap) (n0 : Nat) (Z0 : n0 ≤ h0.size) (p0_O : Old Z n0 h0) (p1_S : Sta Z Z.heap "java/lang/String" "COMPACT_STRINGS" "Z" (.int cs)) (hcs : ¬ (cs = (0 : Int32))) (p3_E : Exa Z h0 a0 "java/lang/StringBuilder") (p4_F : Fld Z h0 a0 "java/lang/AbstractStringBuilder" "value" "[B" (.ref arr)) (p5_F : Fld Z h0 a0 "java/lang/AbstractStringBuilder" "coder" "B" (.int 0)) (p6_A : Arv Z h0 arr kr .byte (16 : Int32) (Pd bs) (.int 0)) (p7_E : Exa Z h0 a2 "java/lang/String") (p8_F : Fld Z h0 a2 "java/lang/String" "coder" "B" (.int 0)) (p9_F : Fld Z h0 a2 "java/lang/String" "value" "[B" (.ref va)) (p10_A : Arv Z h0 va ka .byte z vs (.int 0)) (p11_ne : va ≠ arr) (p12_g : n0 ≤ arr) (hbs : Ln cnt bs 6) (hvs : Ln z vs 2) :
    MetFree l (⟨"java/lang/AbstractStringBuilder", "putStringAt", "(ILjava/lang/String;)V"⟩ : MethodName) (head1 (Jvm.Cond.code (⟨"java/lang/AbstractStringBuilder", "putStringAt", "(ILjava/lang/String;)V"⟩ : MethodName) jdk_68_method_73_code 3 none :: ws) ({ frames := 2, cells := 0, slots := 0, locals := 33 } : Room)) (fun a U => a = #[(.ref a0), (.int cnt), (.ref a2)] ∧ Z.Warmed39 U.vm ∧ U.heap = h0) (fun _ _ _ _ _ => True) (fun _ U o U' => ∃ v L, o = .returned v ∧ Q_psa Z a0 cnt a2 va ka z vs arr kr bs cs h0 n0 v U'.heap L ∧ FrameEnd U o U' L ({ frames := 2, cells := 0, slots := 0, locals := 33 } : Room).cells ({ frames := 2, cells := 0, slots := 0, locals := 33 } : Room).slots) := by
  refine MetFree.of_bodySF (plainFor_of_name pn_java_lang_AbstractStringBuilder) hisR ?_
  intro p e s m args below meth c s₁ Bd hml0 hP hK
  obtain ⟨rfl, hZ, hh⟩ := hP
  have hx := Bd.exec
  have hby := Bd.bytes
  have hml : c.maxLocals = 3 := hml0
  have hown : s.vm.findClass "java/lang/AbstractStringBuilder" = some m.cls := findClass_of_methodNamed Bd.named
  have hnm := (name_of_methodNamed Bd.named Bd.method).1
  have X0 : Stand p l e ({ frames := 2, cells := 0, slots := 0, locals := 33 } : Room) s m #[(.ref a0), (.int cnt), (.ref a2)] below meth c s₁ [] 0 0 := Stand.of_body Bd
  have e0 : s₁.heap = h0 := by rw [← hh, Bd.state]; rfl
  have N0 := Fr.nil n0
  have pre0 : ∀ tz_, Steps p.tables e below (s₁.setTop (mkF m 0 #[.val (.ref a0), .val (.int cnt), .val (.ref a2)] [])) tz_ → Steps p.tables e below (s₁.setTop (entryFrame m #[(.ref a0), (.int cnt), (.ref a2)] 3)) tz_ := fun tz_ kz_ => castTop (ef_psa m a0 cnt a2) kz_
  have K0 : Keep h0 h0 [arr] := Keep.refl h0 [arr]
  -- pc 2: AbstractStringBuilder.inflateIfNeededFor
  obtain ⟨cq31, qp31, qr31⟩ := p3_E.cell
  obtain ⟨_, _, ⟨T31, L31, k31, n31⟩, -, X31, ⟨Lc31, hQ31, l31, y31, z31⟩, st31⟩ := X0.privateBack hx (y := (⟨"java/lang/AbstractStringBuilder", "inflateIfNeededFor", "(Ljava/lang/String;)V"⟩ : MethodName)) hown (mvT hZ (hw _ (mg (i := 114) rfl))) (mvT hZ (hw _ (mg (i := 115) rfl))) (own_selp (mvT hZ (hw _ (mg (i := 117) rfl))) (mvT hZ (hw _ (mg (i := 115) rfl))) (Cond.privateMethod_at (mvP hZ (hw _ (mg (i := 116) rfl)) (args := #[]))) (by decide)) (Cond.privateMethod_at (mvP hZ (hw _ (mg (i := 116) rfl)) (args := #[]))) (mvT hZ (hw _ (mg (i := 118) rfl))) (by decide) (backOf (W := 0) (infl l Z av0 hw [] a0 a2 cs h0 n0 (own_le p0_O) p0_O p1_S (hcs : ¬ (cs = (0 : Int32))) p5_F p7_E p8_F) hZ (hw _ (mg (i := 118) rfl)) (hw _ (mg (i := 74) rfl)) (by decide) (by decide)) (g := (mkF m 2 #[.val (.ref a0), .val (.int cnt), .val (.ref a2)] [(.ref a2), (.ref a0)])) rfl (by rw [hml]; rfl) (Steps.refl _) (a := a0) (by rw [e0]; exact qp31) qr31 (argsL := [(.ref a2)]) (rest := []) (lenOf pd_16 rfl) rfl (by show 2 * 0 + _ ≤ _; exact Nat.le_of_eq rfl) (hb hby d19_2) (fun vmx hWx => ⟨rfl, e0, (by decide : 0 + 0 ≤ _), (by decide : 0 + 0 ≤ _)⟩)
  dsimp only [Pt.U, Pt.locs, Pt.cells, Pt.slots] at X31 l31 y31 z31 st31 hQ31
  subst l31 y31 z31
  obtain ⟨rv31, Nq31, Kq31⟩ := hQ31
  subst rv31
  have N31 := Fr.app N0 Nq31
  obtain ⟨T32, X32, e32, st32⟩ := getF X31 hx hZ hown (host := "") (Or.inl (hw _ (mg (i := 78) rfl))) Via.refl Kq31 p4_F (g := (mkF m 7 #[.val (.ref a0), .val (.int cnt), .val (.ref a2)] [(.ref a0), (.ref a2)])) rfl rfl (hb hby d19_7)
  obtain ⟨T33, X33, e33, st33⟩ := getF X32 hx hZ hown (host := "") (Or.inl (hw _ (mg (i := 80) rfl))) Via.refl e32 p5_F (g := (mkF m 12 #[.val (.ref a0), .val (.int cnt), .val (.ref a2)] [(.ref a0), (.int cnt), (.ref arr), (.ref a2)])) rfl rfl (hb hby d19_12)
  -- pc 15: String.getBytes
  obtain ⟨cq34, kq34, q34a, q34b, q34c⟩ := isOf hZ e33 p7_E
  obtain ⟨_, _, ⟨T34, L34, k34, n34⟩, -, X34, ⟨Lc34, hQ34, l34, y34, z34⟩, st34⟩ := X33.virtualBack hx (y := (⟨"java/lang/String", "getBytes", "([BIB)V"⟩ : MethodName)) (z := (⟨"java/lang/String", "getBytes", "([BIB)V"⟩ : MethodName)) hown (mvT hZ (hw _ (mg (i := 120) rfl))) (mvT hZ (hw _ (mg (i := 121) rfl))) (notFace_of_selects (args := #[]) (mvT hZ (hw _ (mg (i := 123) rfl)))) (mvT hZ (hw _ (mg (i := 123) rfl))) (mvT hZ (hw _ (mg (i := 122) rfl))) (by decide) (backOf (W := 0) (gby l Z av0 hw [] a2 arr cnt va ka z vs kr bs cs h0 n0 (own_le p0_O) p0_O p1_S (hcs : ¬ (cs = (0 : Int32))) p7_E p8_F p9_F p10_A p6_A p11_ne p12_g (hbs : Ln cnt bs 6) (hvs : Ln z vs 2)) hZ (hw _ (mg (i := 124) rfl)) (hw _ (mg (i := 6) rfl)) (by decide) (by decide)) q34a q34c (g := (mkF m 15 #[.val (.ref a0), .val (.int cnt), .val (.ref a2)] [(.int 0), (.int cnt), (.ref arr), (.ref a2)])) rfl (by rw [hml]; rfl) (Steps.refl _) (argsL := [(.ref arr), (.int cnt), (.int 0)]) (rest := []) (lenOf pd_17 rfl) rfl (by show 2 * 0 + _ ≤ _; exact Nat.le_of_eq rfl) (hb hby d19_15) (fun vmx hWx => ⟨rfl, e33, (by decide : 0 + 0 ≤ _), (by decide : 0 + 0 ≤ _)⟩)
  dsimp only [Pt.U, Pt.locs, Pt.cells, Pt.slots] at X34 l34 y34 z34 st34 hQ34
  subst l34 y34 z34
  obtain ⟨rv34, Nq34, Kq34, u34_0⟩ := hQ34
  subst rv34
  have N34 := Fr.app N31 Nq34
  have K35 := K0.trans Kq34 (allS (Or.inl (List.mem_of_getElem? (i := 0) rfl)) all0)
  have O35 := p0_O.keep Kq34 (allS p12_g all0)
  obtain ⟨fs, hrL, hrun, hended, hW, hsame⟩ := X34.leave (v := none) (fun _ => rfl)
  refine ⟨_, _, pre0 _ ?_, hrun, hended, _, _, rfl, ?_, ⟨_, rfl⟩, hW, hsame.mono (by decide) (by decide)⟩
  · show Steps p.tables e below (s₁.setTop (mkF m 0 #[.val (.ref a0), .val (.int cnt), .val (.ref a2)] [])) _
    refine XS.aloadN X0.here hx rfl (hb hby d19_0) rfl rfl ?_
    refine XS.aloadN X0.here hx rfl (hb hby d19_1) rfl rfl ?_
    show Steps p.tables e below (s₁.setTop (mkF m 2 #[.val (.ref a0), .val (.int cnt), .val (.ref a2)] [(.ref a2), (.ref a0)])) _
    refine st31.trans ?_
    show Steps p.tables e below (T31.setTop (mkF m 5 #[.val (.ref a0), .val (.int cnt), .val (.ref a2)] [])) _
    refine XS.aloadN X31.here hx rfl (hb hby d19_5) rfl rfl ?_
    refine XS.aloadN X31.here hx rfl (hb hby d19_6) rfl rfl ?_
    show Steps p.tables e below (T31.setTop (mkF m 7 #[.val (.ref a0), .val (.int cnt), .val (.ref a2)] [(.ref a0), (.ref a2)])) _
    refine st32 _ ?_
    refine XS.iloadN X32.here hx rfl (hb hby d19_10) rfl ?_
    show Steps p.tables e below (T32.setTop (mkF m 11 #[.val (.ref a0), .val (.int cnt), .val (.ref a2)] [(.int cnt), (.ref arr), (.ref a2)])) _
    refine XS.aloadN X32.here hx rfl (hb hby d19_11) rfl rfl ?_
    show Steps p.tables e below (T32.setTop (mkF m 12 #[.val (.ref a0), .val (.int cnt), .val (.ref a2)] [(.ref a0), (.int cnt), (.ref arr), (.ref a2)])) _
    refine st33 _ ?_
    show Steps p.tables e below (T33.setTop (mkF m 15 #[.val (.ref a0), .val (.int cnt), .val (.ref a2)] [(.int 0), (.int cnt), (.ref arr), (.ref a2)])) _
    refine st34.trans ?_
    show Steps p.tables e below (T34.setTop (mkF m 18 #[.val (.ref a0), .val (.int cnt), .val (.ref a2)] [])) _
    exact X34.returnOut hx Bd.returns (hb hby d19_18) hrL
  · show Q_psa _ _ _ _ _ _ _ _ _ _ _ _ _ _ _  T34.heap _
    exact ⟨rfl, N34, K35, u34_0⟩
theorem d15_0 : decode jdk_68_method_22_code 0 = .ok (.aload_n 1, 1) := by decide +kernel
theorem d15_1 : decode jdk_68_method_22_code 1 = .ok (.ifnonnull 8, 3) := by decide +kernel
theorem d15_9 : decode jdk_68_method_22_code 9 = .ok (.aload_n 1, 1) := by decide +kernel
theorem d15_10 : decode jdk_68_method_22_code 10 = .ok (.invokevirtual 32, 3) := by decide +kernel
theorem pd_13 : parseMethodDescriptor "()I" = some ⟨[], some .int⟩ := by decide +kernel
theorem d15_13 : decode jdk_68_method_22_code 13 = .ok (.istore_n 2, 1) := by decide +kernel
theorem d15_14 : decode jdk_68_method_22_code 14 = .ok (.aload_n 0, 1) := by decide +kernel
theorem d15_15 : decode jdk_68_method_22_code 15 = .ok (.aload_n 0, 1) := by decide +kernel
theorem d15_16 : decode jdk_68_method_22_code 16 = .ok (.getfield 79, 3) := by decide +kernel
theorem d15_19 : decode jdk_68_method_22_code 19 = .ok (.iload_n 2, 1) := by decide +kernel
theorem d15_20 : decode jdk_68_method_22_code 20 = .ok (.iadd, 1) := by decide +kernel
theorem d15_21 : decode jdk_68_method_22_code 21 = .ok (.invokevirtual 100, 3) := by decide +kernel
theorem pd_10 : parseMethodDescriptor "(I)V" = some ⟨[.int], none⟩ := by decide +kernel
theorem d15_24 : decode jdk_68_method_22_code 24 = .ok (.aload_n 0, 1) := by decide +kernel
theorem d15_25 : decode jdk_68_method_22_code 25 = .ok (.aload_n 0, 1) := by decide +kernel
theorem d15_26 : decode jdk_68_method_22_code 26 = .ok (.getfield 79, 3) := by decide +kernel
theorem d15_29 : decode jdk_68_method_22_code 29 = .ok (.aload_n 1, 1) := by decide +kernel
theorem d15_30 : decode jdk_68_method_22_code 30 = .ok (.invokevirtual 208, 3) := by decide +kernel
theorem pd_15 : parseMethodDescriptor "(ILjava/lang/String;)V" = some ⟨[.int, (.object "java/lang/String")], none⟩ := by decide +kernel
theorem d15_33 : decode jdk_68_method_22_code 33 = .ok (.aload_n 0, 1) := by decide +kernel
theorem d15_34 : decode jdk_68_method_22_code 34 = .ok (.dup, 1) := by decide +kernel
theorem d15_35 : decode jdk_68_method_22_code 35 = .ok (.getfield 79, 3) := by decide +kernel
theorem d15_38 : decode jdk_68_method_22_code 38 = .ok (.iload_n 2, 1) := by decide +kernel
theorem d15_39 : decode jdk_68_method_22_code 39 = .ok (.iadd, 1) := by decide +kernel
theorem d15_40 : decode jdk_68_method_22_code 40 = .ok (.putfield 79, 3) := by decide +kernel
theorem d15_43 : decode jdk_68_method_22_code 43 = .ok (.aload_n 0, 1) := by decide +kernel
theorem d15_44 : decode jdk_68_method_22_code 44 = .ok (.areturn, 1) := by decide +kernel
theorem ef_aap (m : MethodId) (a0 : Addr) (a1 : Addr) : entryFrame m #[(.ref a0), (.ref a1)] 3 = mkF m 0 #[.val (.ref a0), .val (.ref a1), .unset] [] := by first | (simp [entryFrame, mkF, argsToLocals, Value.category]; done) | rfl
def Q_aap (Z : State) (a0 : Addr) (a1 : Addr) (va : Addr) (ka : ClassId) (z : Int32) (vs : List Value) (arr : Addr) (kr : ClassId) (cnt : Int32) (bs : List Value) (cs : Int32) (h0 : Heap) (n0 : Nat) (v : Option Value) (h : Heap) (L : List Loc) : Prop := v = some (.ref a0) ∧ Fr n0 L ∧ Keep h0 h [a0, arr] ∧ Exa Z h a0 "java/lang/StringBuilder" ∧ Fld Z h a0 "java/lang/AbstractStringBuilder" "value" "[B" (.ref arr) ∧ Fld Z h a0 "java/lang/AbstractStringBuilder" "coder" "B" (.int 0) ∧ Fld Z h a0 "java/lang/AbstractStringBuilder" "count" "I" (.int (cnt + z)) ∧ Arv Z h arr kr .byte (16 : Int32) (Pd (bs ++ vs)) (.int 0)
set_option maxRecDepth 65536 in
set_option maxHeartbeats 40000000 in
theorem aap (l : Launch) (Z : State) (av0 : Array Value) (hw : ∀ d ∈ tables_1, d.before av0 Z = true) (ws : List Jvm.Cond) (a0 : Addr) (a1 : Addr) (va : Addr) (ka : ClassId) (z : Int32) (vs : List Value) (arr : Addr) (kr : ClassId) (cnt : Int32) (bs : List Value) (cs : Int32) (h0 : Heap) (n0 : Nat) (Z0 : n0 ≤ h0.size) (p0_O : Old Z n0 h0) (p1_S : Sta Z Z.heap "java/lang/String" "COMPACT_STRINGS" "Z" (.int cs)) (hcs : ¬ (cs = (0 : Int32))) (p3_E : Exa Z h0 a0 "java/lang/StringBuilder") (p4_F : Fld Z h0 a0 "java/lang/AbstractStringBuilder" "value" "[B" (.ref arr)) (p5_F : Fld Z h0 a0 "java/lang/AbstractStringBuilder" "coder" "B" (.int 0)) (p6_F : Fld Z h0 a0 "java/lang/AbstractStringBuilder" "count" "I" (.int cnt)) (p7_A : Arv Z h0 arr kr .byte (16 : Int32) (Pd bs) (.int 0)) (p8_E : Exa Z h0 a1 "java/lang/String") (p9_F : Fld Z h0 a1 "java/lang/String" "coder" "B" (.int 0)) (p10_F : Fld Z h0 a1 "java/lang/String" "value" "[B" (.ref va)) (p11_A : Arv Z h0 va ka .byte z vs (.int 0)) (p12_ne : va ≠ arr) (p13_g : n0 ≤ arr) (p14_g : n0 ≤ a0) (hbs : Ln cnt bs 6) (hvs : Ln z vs 2) :
    MetFree l (⟨"java/lang/AbstractStringBuilder", "append", "(Ljava/lang/String;)Ljava/lang/AbstractStringBuilder;"⟩ : MethodName) (head1 (Jvm.Cond.code (⟨"java/lang/AbstractStringBuilder", "append", "(Ljava/lang/String;)Ljava/lang/AbstractStringBuilder;"⟩ : MethodName) jdk_68_method_22_code 3 (some (.object "java/lang/AbstractStringBuilder")) :: ws) ({ frames := 3, cells := 0, slots := 0, locals := 47 } : Room)) (fun a U => a = #[(.ref a0), (.ref a1)] ∧ Z.Warmed39 U.vm ∧ U.heap = h0) (fun _ _ _ _ _ => True) (fun _ U o U' => ∃ v L, o = .returned v ∧ Q_aap Z a0 a1 va ka z vs arr kr cnt bs cs h0 n0 v U'.heap L ∧ FrameEnd U o U' L ({ frames := 3, cells := 0, slots := 0, locals := 47 } : Room).cells ({ frames := 3, cells := 0, slots := 0, locals := 47 } : Room).slots) := by
  refine MetFree.of_bodySF (plainFor_of_name pn_java_lang_AbstractStringBuilder) hisR ?_
  intro p e s m args below meth c s₁ Bd hml0 hP hK
  obtain ⟨rfl, hZ, hh⟩ := hP
  have hx := Bd.exec
  have hby := Bd.bytes
  have hml : c.maxLocals = 3 := hml0
  have hown : s.vm.findClass "java/lang/AbstractStringBuilder" = some m.cls := findClass_of_methodNamed Bd.named
  have hnm := (name_of_methodNamed Bd.named Bd.method).1
  have X0 : Stand p l e ({ frames := 3, cells := 0, slots := 0, locals := 47 } : Room) s m #[(.ref a0), (.ref a1)] below meth c s₁ [] 0 0 := Stand.of_body Bd
  have e0 : s₁.heap = h0 := by rw [← hh, Bd.state]; rfl
  have N0 := Fr.nil n0
  have pre0 : ∀ tz_, Steps p.tables e below (s₁.setTop (mkF m 0 #[.val (.ref a0), .val (.ref a1), .unset] [])) tz_ → Steps p.tables e below (s₁.setTop (entryFrame m #[(.ref a0), (.ref a1)] 3)) tz_ := fun tz_ kz_ => castTop (ef_aap m a0 a1) kz_
  have K0 : Keep h0 h0 [a0, arr] := Keep.refl h0 [a0, arr]
  -- pc 10: String.length
  obtain ⟨cq31, kq31, q31a, q31b, q31c⟩ := isOf hZ e0 p8_E
  obtain ⟨_, _, ⟨T31, L31, k31, n31⟩, -, X31, ⟨Lc31, hQ31, l31, y31, z31⟩, st31⟩ := X0.virtualBack hx (y := (⟨"java/lang/String", "length", "()I"⟩ : MethodName)) (z := (⟨"java/lang/String", "length", "()I"⟩ : MethodName)) hown (mvT hZ (hw _ (mg (i := 92) rfl))) (mvT hZ (hw _ (mg (i := 93) rfl))) (notFace_of_selects (args := #[]) (mvT hZ (hw _ (mg (i := 95) rfl)))) (mvT hZ (hw _ (mg (i := 95) rfl))) (mvT hZ (hw _ (mg (i := 94) rfl))) (by decide) (backOf (W := 0) (slen l Z av0 hw [] a1 va ka z vs cs h0 n0 (own_le p0_O) p0_O p1_S (hcs : ¬ (cs = (0 : Int32))) p8_E p9_F p10_F p11_A) hZ (hw _ (mg (i := 96) rfl)) (hw _ (mg (i := 6) rfl)) (by decide) (by decide)) q31a q31c (g := (mkF m 10 #[.val (.ref a0), .val (.ref a1), .unset] [(.ref a1)])) rfl (by rw [hml]; rfl) (Steps.refl _) (argsL := []) (rest := []) (lenOf pd_13 rfl) rfl (by show 2 * 0 + _ ≤ _; exact Nat.le_of_eq rfl) (hb hby d15_10) (fun vmx hWx => ⟨rfl, e0, (by decide : 0 + 0 ≤ _), (by decide : 0 + 0 ≤ _)⟩)
  dsimp only [Pt.U, Pt.locs, Pt.cells, Pt.slots] at X31 l31 y31 z31 st31 hQ31
  subst l31 y31 z31
  obtain ⟨rv31, Nq31, Kq31⟩ := hQ31
  subst rv31
  have N31 := Fr.app N0 Nq31
  obtain ⟨T32, X32, e32, st32⟩ := getF X31 hx hZ hown (host := "") (Or.inl (hw _ (mg (i := 102) rfl))) Via.refl Kq31 p6_F (g := (mkF m 16 #[.val (.ref a0), .val (.ref a1), .val (.int z)] [(.ref a0), (.ref a0)])) rfl rfl (hb hby d15_16)
  -- pc 21: AbstractStringBuilder.ensureCapacityInternal
  obtain ⟨cq33, qp33, qr33⟩ := p3_E.cell
  obtain ⟨_, _, ⟨T33, L33, k33, n33⟩, -, X33, ⟨Lc33, hQ33, l33, y33, z33⟩, st33⟩ := X32.privateBack hx (y := (⟨"java/lang/AbstractStringBuilder", "ensureCapacityInternal", "(I)V"⟩ : MethodName)) hown (mvT hZ (hw _ (mg (i := 104) rfl))) (mvT hZ (hw _ (mg (i := 105) rfl))) (own_selp (mvT hZ (hw _ (mg (i := 107) rfl))) (mvT hZ (hw _ (mg (i := 105) rfl))) (Cond.privateMethod_at (mvP hZ (hw _ (mg (i := 106) rfl)) (args := #[]))) (by decide)) (Cond.privateMethod_at (mvP hZ (hw _ (mg (i := 106) rfl)) (args := #[]))) (mvT hZ (hw _ (mg (i := 108) rfl))) (by decide) (backOf (W := 0) (eci l Z av0 hw [] a0 (cnt + z) arr kr (Pd bs) h0 n0 (own_le p0_O) p4_F p5_F p7_A (own_mc hbs hvs (by decide) : ¬ ((0 : Int32) < ((cnt + z) - (16 : Int32))))) hZ (hw _ (mg (i := 108) rfl)) (hw _ (mg (i := 74) rfl)) (by decide) (by decide)) (g := (mkF m 21 #[.val (.ref a0), .val (.ref a1), .val (.int z)] [(.int (cnt + z)), (.ref a0)])) rfl (by rw [hml]; rfl) (Steps.refl _) (a := a0) (by rw [e32]; exact qp33) qr33 (argsL := [(.int (cnt + z))]) (rest := []) (lenOf pd_10 rfl) rfl (by show 2 * 0 + _ ≤ _; exact Nat.le_of_eq rfl) (hb hby d15_21) (fun vmx hWx => ⟨rfl, e32, (by decide : 0 + 0 ≤ _), (by decide : 0 + 0 ≤ _)⟩)
  dsimp only [Pt.U, Pt.locs, Pt.cells, Pt.slots] at X33 l33 y33 z33 st33 hQ33
  subst l33 y33 z33
  obtain ⟨rv33, Nq33, Kq33⟩ := hQ33
  subst rv33
  have N33 := Fr.app N31 Nq33
  obtain ⟨T34, X34, e34, st34⟩ := getF X33 hx hZ hown (host := "") (Or.inl (hw _ (mg (i := 102) rfl))) Via.refl Kq33 p6_F (g := (mkF m 26 #[.val (.ref a0), .val (.ref a1), .val (.int z)] [(.ref a0), (.ref a0)])) rfl rfl (hb hby d15_26)
  -- pc 30: AbstractStringBuilder.putStringAt
  obtain ⟨cq35, qp35, qr35⟩ := p3_E.cell
  obtain ⟨_, _, ⟨T35, L35, k35, n35⟩, -, X35, ⟨Lc35, hQ35, l35, y35, z35⟩, st35⟩ := X34.privateBack hx (y := (⟨"java/lang/AbstractStringBuilder", "putStringAt", "(ILjava/lang/String;)V"⟩ : MethodName)) hown (mvT hZ (hw _ (mg (i := 109) rfl))) (mvT hZ (hw _ (mg (i := 110) rfl))) (own_selp (mvT hZ (hw _ (mg (i := 112) rfl))) (mvT hZ (hw _ (mg (i := 110) rfl))) (Cond.privateMethod_at (mvP hZ (hw _ (mg (i := 111) rfl)) (args := #[]))) (by decide)) (Cond.privateMethod_at (mvP hZ (hw _ (mg (i := 111) rfl)) (args := #[]))) (mvT hZ (hw _ (mg (i := 113) rfl))) (by decide) (backOf (W := 0) (psa l Z av0 hw [] a0 cnt a1 va ka z vs arr kr bs cs h0 n0 (own_le p0_O) p0_O p1_S (hcs : ¬ (cs = (0 : Int32))) p3_E p4_F p5_F p7_A p8_E p9_F p10_F p11_A p12_ne p13_g (hbs : Ln cnt bs 6) (hvs : Ln z vs 2)) hZ (hw _ (mg (i := 113) rfl)) (hw _ (mg (i := 74) rfl)) (by decide) (by decide)) (g := (mkF m 30 #[.val (.ref a0), .val (.ref a1), .val (.int z)] [(.ref a1), (.int cnt), (.ref a0)])) rfl (by rw [hml]; rfl) (Steps.refl _) (a := a0) (by rw [e34]; exact qp35) qr35 (argsL := [(.int cnt), (.ref a1)]) (rest := []) (lenOf pd_15 rfl) rfl (by show 2 * 0 + _ ≤ _; exact Nat.le_of_eq rfl) (hb hby d15_30) (fun vmx hWx => ⟨rfl, e34, (by decide : 0 + 0 ≤ _), (by decide : 0 + 0 ≤ _)⟩)
  dsimp only [Pt.U, Pt.locs, Pt.cells, Pt.slots] at X35 l35 y35 z35 st35 hQ35
  subst l35 y35 z35
  obtain ⟨rv35, Nq35, Kq35, u35_0⟩ := hQ35
  subst rv35
  have N35 := Fr.app N33 Nq35
  have K36 := K0.trans Kq35 (allS (Or.inl (List.mem_of_getElem? (i := 1) rfl)) all0)
  have O36 := p0_O.keep Kq35 (allS p13_g all0)
  have ne37 : a0 ≠ arr := (ne_arv (p3_E.keep Kq35) (hw _ (mg (i := 65) rfl)) u35_0)
  have f38 := (p6_F.keep Kq35 (ninS ne37 nin0))
  obtain ⟨T39, X39, e39, st39⟩ := getF X35 hx hZ hown (host := "") (Or.inl (hw _ (mg (i := 102) rfl))) Via.refl rfl f38 (g := (mkF m 35 #[.val (.ref a0), .val (.ref a1), .val (.int z)] [(.ref a0), (.ref a0)])) rfl rfl (hb hby d15_35)
  have f40 := (p3_E.keep Kq35)
  obtain ⟨T41, h41, X41, e41, W41, st41⟩ := putF X39 hx hZ hown (host := "") (Or.inl (hw _ (mg (i := 102) rfl))) Via.refl e39 f38 f40 (Or.inl (hw _ (mg (i := 103) rfl))) (hw _ (mg (i := 65) rfl)) (ty := .int) (by decide) rfl rfl (g := (mkF m 40 #[.val (.ref a0), .val (.ref a1), .val (.int z)] [(.int (cnt + z)), (.ref a0)])) rfl rfl (hb hby d15_40)
  have Fw41 : Fld Z h41 a0 "java/lang/AbstractStringBuilder" "count" "I" (.int (cnt + z)) := f38.same W41
  have N41 := Fr.snoc X41 N35 p14_g
  have K42 := K36.wr W41 (Or.inl (List.mem_of_getElem? (i := 0) rfl))
  have O42 := O36.wr W41 p14_g
  obtain ⟨fs, hrL, hrun, hended, hW, hsame⟩ := X41.leave (v := some (.ref a0)) (fun h => by rw [Bd.returns] at h; cases h)
  have f43 := (f40.wr W41)
  have f44 := ((p4_F.keep Kq35 (ninS ne37 nin0)).other W41 (Or.inr (slot_ne (Or.inl (hw _ (mg (i := 79) rfl))) (Or.inl (hw _ (mg (i := 103) rfl))) (by decide) (t := (.array .byte)) (t' := .int) (by decide) (by decide))))
  have f45 := ((p5_F.keep Kq35 (ninS ne37 nin0)).other W41 (Or.inr (slot_ne (Or.inl (hw _ (mg (i := 81) rfl))) (Or.inl (hw _ (mg (i := 103) rfl))) (by decide) (t := .byte) (t' := .int) (by decide) (by decide))))
  have f46 := (u35_0.other W41 (Ne.symm ne37))
  refine ⟨_, _, pre0 _ ?_, hrun, hended, _, _, rfl, ?_, ⟨_, rfl⟩, hW, hsame.mono (by decide) (by decide)⟩
  · show Steps p.tables e below (s₁.setTop (mkF m 0 #[.val (.ref a0), .val (.ref a1), .unset] [])) _
    refine XS.aloadN X0.here hx rfl (hb hby d15_0) rfl rfl ?_
    show Steps p.tables e below (s₁.setTop (mkF m 1 #[.val (.ref a0), .val (.ref a1), .unset] [(.ref a1)])) _
    refine XS.ifnonnullYes X0.here hx rfl (pc0 := 1) (pc' := 9) rfl (hb hby d15_1) rfl (by decide) (by decide) ?_
    refine XS.aloadN X0.here hx rfl (hb hby d15_9) rfl rfl ?_
    show Steps p.tables e below (s₁.setTop (mkF m 10 #[.val (.ref a0), .val (.ref a1), .unset] [(.ref a1)])) _
    refine st31.trans ?_
    refine XS.istoreN X31.here hx rfl (hb hby d15_13) rfl (l' := #[.val (.ref a0), .val (.ref a1), .val (.int z)]) rfl ?_
    refine XS.aloadN X31.here hx rfl (hb hby d15_14) rfl rfl ?_
    refine XS.aloadN X31.here hx rfl (hb hby d15_15) rfl rfl ?_
    show Steps p.tables e below (T31.setTop (mkF m 16 #[.val (.ref a0), .val (.ref a1), .val (.int z)] [(.ref a0), (.ref a0)])) _
    refine st32 _ ?_
    refine XS.iloadN X32.here hx rfl (hb hby d15_19) rfl ?_
    show Steps p.tables e below (T32.setTop (mkF m 20 #[.val (.ref a0), .val (.ref a1), .val (.int z)] [(.int z), (.int cnt), (.ref a0)])) _
    refine XS.iadd X32.here hx rfl (hb hby d15_20) rfl ?_
    show Steps p.tables e below (T32.setTop (mkF m 21 #[.val (.ref a0), .val (.ref a1), .val (.int z)] [(.int (cnt + z)), (.ref a0)])) _
    refine st33.trans ?_
    show Steps p.tables e below (T33.setTop (mkF m 24 #[.val (.ref a0), .val (.ref a1), .val (.int z)] [])) _
    refine XS.aloadN X33.here hx rfl (hb hby d15_24) rfl rfl ?_
    refine XS.aloadN X33.here hx rfl (hb hby d15_25) rfl rfl ?_
    show Steps p.tables e below (T33.setTop (mkF m 26 #[.val (.ref a0), .val (.ref a1), .val (.int z)] [(.ref a0), (.ref a0)])) _
    refine st34 _ ?_
    refine XS.aloadN X34.here hx rfl (hb hby d15_29) rfl rfl ?_
    show Steps p.tables e below (T34.setTop (mkF m 30 #[.val (.ref a0), .val (.ref a1), .val (.int z)] [(.ref a1), (.int cnt), (.ref a0)])) _
    refine st35.trans ?_
    refine XS.aloadN X35.here hx rfl (hb hby d15_33) rfl rfl ?_
    refine XS.dup X35.here hx rfl (hb hby d15_34) rfl rfl ?_
    show Steps p.tables e below (T35.setTop (mkF m 35 #[.val (.ref a0), .val (.ref a1), .val (.int z)] [(.ref a0), (.ref a0)])) _
    refine st39 _ ?_
    show Steps p.tables e below (T39.setTop (mkF m 38 #[.val (.ref a0), .val (.ref a1), .val (.int z)] [(.int cnt), (.ref a0)])) _
    refine XS.iloadN X39.here hx rfl (hb hby d15_38) rfl ?_
    show Steps p.tables e below (T39.setTop (mkF m 39 #[.val (.ref a0), .val (.ref a1), .val (.int z)] [(.int z), (.int cnt), (.ref a0)])) _
    refine XS.iadd X39.here hx rfl (hb hby d15_39) rfl ?_
    show Steps p.tables e below (T39.setTop (mkF m 40 #[.val (.ref a0), .val (.ref a1), .val (.int z)] [(.int (cnt + z)), (.ref a0)])) _
    refine st41 _ ?_
    refine XS.aloadN X41.here hx rfl (hb hby d15_43) rfl rfl ?_
    show Steps p.tables e below (T41.setTop (mkF m 44 #[.val (.ref a0), .val (.ref a1), .val (.int z)] [(.ref a0)])) _
    exact retOut X41 hx Bd.returns rfl (Or.inr (Or.inr (Or.inr (Or.inr ⟨rfl, rfl, rfl⟩)))) (hb hby d15_44) hrL
  · show Q_aap _ _ _ _ _ _ _ _ _ _ _ _ _ _ _  T41.heap _
    rw [e41]
    exact ⟨rfl, N41, K42, f43, f44, f45, Fw41, f46⟩
theorem d14_0 : decode jdk_67_method_7_code 0 = .ok (.aload_n 0, 1) := by decide +kernel
theorem d14_1 : decode jdk_67_method_7_code 1 = .ok (.aload_n 1, 1) := by decide +kernel
theorem d14_2 : decode jdk_67_method_7_code 2 = .ok (.invokespecial 29, 3) := by decide +kernel
theorem pd_12 : parseMethodDescriptor "(Ljava/lang/String;)Ljava/lang/AbstractStringBuilder;" = some ⟨[(.object "java/lang/String")], some (.object "java/lang/AbstractStringBuilder")⟩ := by decide +kernel
theorem d14_5 : decode jdk_67_method_7_code 5 = .ok (.pop, 1) := by decide +kernel
theorem d14_6 : decode jdk_67_method_7_code 6 = .ok (.aload_n 0, 1) := by decide +kernel
theorem d14_7 : decode jdk_67_method_7_code 7 = .ok (.areturn, 1) := by decide +kernel
theorem pn_java_lang_StringBuilder : plainName "java/lang/StringBuilder" = true := by first | (simp [plainName, overriddenIn]; done) | decide +kernel
theorem ef_sap (m : MethodId) (a0 : Addr) (a1 : Addr) : entryFrame m #[(.ref a0), (.ref a1)] 2 = mkF m 0 #[.val (.ref a0), .val (.ref a1)] [] := by first | (simp [entryFrame, mkF, argsToLocals, Value.category]; done) | rfl
def Q_sap (Z : State) (a0 : Addr) (a1 : Addr) (va : Addr) (ka : ClassId) (z : Int32) (vs : List Value) (arr : Addr) (kr : ClassId) (cnt : Int32) (bs : List Value) (cs : Int32) (h0 : Heap) (n0 : Nat) (v : Option Value) (h : Heap) (L : List Loc) : Prop := v = some (.ref a0) ∧ Fr n0 L ∧ Keep h0 h [a0, arr] ∧ Exa Z h a0 "java/lang/StringBuilder" ∧ Fld Z h a0 "java/lang/AbstractStringBuilder" "value" "[B" (.ref arr) ∧ Fld Z h a0 "java/lang/AbstractStringBuilder" "coder" "B" (.int 0) ∧ Fld Z h a0 "java/lang/AbstractStringBuilder" "count" "I" (.int (cnt + z)) ∧ Arv Z h arr kr .byte (16 : Int32) (Pd (bs ++ vs)) (.int 0)
set_option maxRecDepth 65536 in
set_option maxHeartbeats 40000000 in
theorem sap (l : Launch) (Z : State) (av0 : Array Value) (hw : ∀ d ∈ tables_1, d.before av0 Z = true) (ws : List Jvm.Cond) (a0 : Addr) (a1 : Addr) (va : Addr) (ka : ClassId) (z : Int32) (vs : List Value) (arr : Addr) (kr : ClassId) (cnt : Int32) (bs : List Value) (cs : Int32) (h0 : Heap) (n0 : Nat) (Z0 : n0 ≤ h0.size) (p0_O : Old Z n0 h0) (p1_S : Sta Z Z.heap "java/lang/String" "COMPACT_STRINGS" "Z" (.int cs)) (hcs : ¬ (cs = (0 : Int32))) (p3_E : Exa Z h0 a0 "java/lang/StringBuilder") (p4_F : Fld Z h0 a0 "java/lang/AbstractStringBuilder" "value" "[B" (.ref arr)) (p5_F : Fld Z h0 a0 "java/lang/AbstractStringBuilder" "coder" "B" (.int 0)) (p6_F : Fld Z h0 a0 "java/lang/AbstractStringBuilder" "count" "I" (.int cnt)) (p7_A : Arv Z h0 arr kr .byte (16 : Int32) (Pd bs) (.int 0)) (p8_E : Exa Z h0 a1 "java/lang/String") (p9_F : Fld Z h0 a1 "java/lang/String" "coder" "B" (.int 0)) (p10_F : Fld Z h0 a1 "java/lang/String" "value" "[B" (.ref va)) (p11_A : Arv Z h0 va ka .byte z vs (.int 0)) (p12_ne : va ≠ arr) (p13_g : n0 ≤ arr) (p14_g : n0 ≤ a0) (hbs : Ln cnt bs 6) (hvs : Ln z vs 2) :
    MetFree l (⟨"java/lang/StringBuilder", "append", "(Ljava/lang/String;)Ljava/lang/StringBuilder;"⟩ : MethodName) (head1 (Jvm.Cond.code (⟨"java/lang/StringBuilder", "append", "(Ljava/lang/String;)Ljava/lang/StringBuilder;"⟩ : MethodName) jdk_67_method_7_code 2 (some (.object "java/lang/StringBuilder")) :: ws) ({ frames := 4, cells := 0, slots := 0, locals := 61 } : Room)) (fun a U => a = #[(.ref a0), (.ref a1)] ∧ Z.Warmed39 U.vm ∧ U.heap = h0) (fun _ _ _ _ _ => True) (fun _ U o U' => ∃ v L, o = .returned v ∧ Q_sap Z a0 a1 va ka z vs arr kr cnt bs cs h0 n0 v U'.heap L ∧ FrameEnd U o U' L ({ frames := 4, cells := 0, slots := 0, locals := 61 } : Room).cells ({ frames := 4, cells := 0, slots := 0, locals := 61 } : Room).slots) := by
  refine MetFree.of_bodySF (plainFor_of_name pn_java_lang_StringBuilder) hisR ?_
  intro p e s m args below meth c s₁ Bd hml0 hP hK
  obtain ⟨rfl, hZ, hh⟩ := hP
  have hx := Bd.exec
  have hby := Bd.bytes
  have hml : c.maxLocals = 2 := hml0
  have hown : s.vm.findClass "java/lang/StringBuilder" = some m.cls := findClass_of_methodNamed Bd.named
  have hnm := (name_of_methodNamed Bd.named Bd.method).1
  have X0 : Stand p l e ({ frames := 4, cells := 0, slots := 0, locals := 61 } : Room) s m #[(.ref a0), (.ref a1)] below meth c s₁ [] 0 0 := Stand.of_body Bd
  have e0 : s₁.heap = h0 := by rw [← hh, Bd.state]; rfl
  have N0 := Fr.nil n0
  have pre0 : ∀ tz_, Steps p.tables e below (s₁.setTop (mkF m 0 #[.val (.ref a0), .val (.ref a1)] [])) tz_ → Steps p.tables e below (s₁.setTop (entryFrame m #[(.ref a0), (.ref a1)] 2)) tz_ := fun tz_ kz_ => castTop (ef_sap m a0 a1) kz_
  have K0 : Keep h0 h0 [a0, arr] := Keep.refl h0 [a0, arr]
  -- pc 2: AbstractStringBuilder.append
  obtain ⟨_, _, ⟨T31, L31, k31, n31⟩, -, X31, ⟨Lc31, hQ31, l31, y31, z31⟩, st31⟩ := superBack X0 hx hZ (y := (⟨"java/lang/AbstractStringBuilder", "append", "(Ljava/lang/String;)Ljava/lang/AbstractStringBuilder;"⟩ : MethodName)) hown (hw _ (mg (i := 87) rfl)) (own_sameM (hw _ (mg (i := 88) rfl)) (hw _ (mg (i := 107) rfl)) rfl (by decide)) (hw _ (mg (i := 88) rfl)) (hw _ (mg (i := 89) rfl)) (by decide) (backOf (W := 0) (aap l Z av0 hw [] a0 a1 va ka z vs arr kr cnt bs cs h0 n0 (own_le p0_O) p0_O p1_S (hcs : ¬ (cs = (0 : Int32))) p3_E p4_F p5_F p6_F p7_A p8_E p9_F p10_F p11_A p12_ne p13_g p14_g (hbs : Ln cnt bs 6) (hvs : Ln z vs 2)) hZ (hw _ (mg (i := 91) rfl)) (hw _ (mg (i := 74) rfl)) (by decide) (by decide)) e0 (Ins.self p3_E) (g := (mkF m 2 #[.val (.ref a0), .val (.ref a1)] [(.ref a1), (.ref a0)])) rfl (by rw [hml]; rfl) (hw _ (mg (i := 91) rfl)) (argsL := [(.ref a1)]) (rest := []) (lenOf pd_12 rfl) rfl (by show 2 * 0 + _ ≤ _; exact Nat.le_of_eq rfl) (hb hby d14_2) (fun vmx hWx => ⟨rfl, e0, (by decide : 0 + 0 ≤ _), (by decide : 0 + 0 ≤ _)⟩)
  dsimp only [Pt.U, Pt.locs, Pt.cells, Pt.slots] at X31 l31 y31 z31 st31 hQ31
  subst l31 y31 z31
  obtain ⟨rv31, Nq31, Kq31, u31_0, u31_1, u31_2, u31_3, u31_4⟩ := hQ31
  subst rv31
  have N31 := Fr.app N0 Nq31
  have K32 := K0.trans Kq31 (allS (Or.inl (List.mem_of_getElem? (i := 0) rfl)) (allS (Or.inl (List.mem_of_getElem? (i := 1) rfl)) all0))
  have O32 := p0_O.keep Kq31 (allS p14_g (allS p13_g all0))
  obtain ⟨fs, hrL, hrun, hended, hW, hsame⟩ := X31.leave (v := some (.ref a0)) (fun h => by rw [Bd.returns] at h; cases h)
  refine ⟨_, _, pre0 _ ?_, hrun, hended, _, _, rfl, ?_, ⟨_, rfl⟩, hW, hsame.mono (by decide) (by decide)⟩
  · show Steps p.tables e below (s₁.setTop (mkF m 0 #[.val (.ref a0), .val (.ref a1)] [])) _
    refine XS.aloadN X0.here hx rfl (hb hby d14_0) rfl rfl ?_
    refine XS.aloadN X0.here hx rfl (hb hby d14_1) rfl rfl ?_
    show Steps p.tables e below (s₁.setTop (mkF m 2 #[.val (.ref a0), .val (.ref a1)] [(.ref a1), (.ref a0)])) _
    refine st31.trans ?_
    show Steps p.tables e below (T31.setTop (mkF m 5 #[.val (.ref a0), .val (.ref a1)] [(.ref a0)])) _
    refine XS.pop X31.here hx rfl (hb hby d14_5) rfl rfl ?_
    refine XS.aloadN X31.here hx rfl (hb hby d14_6) rfl rfl ?_
    show Steps p.tables e below (T31.setTop (mkF m 7 #[.val (.ref a0), .val (.ref a1)] [(.ref a0)])) _
    exact retOut X31 hx Bd.returns rfl (Or.inr (Or.inr (Or.inr (Or.inr ⟨rfl, rfl, rfl⟩)))) (hb hby d14_7) hrL
  · show Q_sap _ _ _ _ _ _ _ _ _ _ _ _ _ _ _  T31.heap _
    exact ⟨rfl, N31, K32, u31_0, u31_1, u31_2, u31_3, u31_4⟩
theorem d13_0 : decode jdk_68_method_2_code 0 = .ok (.aload_n 0, 1) := by decide +kernel
theorem d13_1 : decode jdk_68_method_2_code 1 = .ok (.invokespecial 3, 3) := by decide +kernel
theorem d13_4 : decode jdk_68_method_2_code 4 = .ok (.getstatic 18, 3) := by decide +kernel
theorem d13_7 : decode jdk_68_method_2_code 7 = .ok (.ifCond .eq 18, 3) := by decide +kernel
theorem d13_10 : decode jdk_68_method_2_code 10 = .ok (.aload_n 0, 1) := by decide +kernel
theorem d13_11 : decode jdk_68_method_2_code 11 = .ok (.iload_n 1, 1) := by decide +kernel
theorem d13_12 : decode jdk_68_method_2_code 12 = .ok (.newarray .byte, 2) := by decide +kernel
theorem d13_14 : decode jdk_68_method_2_code 14 = .ok (.putfield 15, 3) := by decide +kernel
theorem d13_17 : decode jdk_68_method_2_code 17 = .ok (.aload_n 0, 1) := by decide +kernel
theorem d13_18 : decode jdk_68_method_2_code 18 = .ok (.iconst 0, 1) := by decide +kernel
theorem d13_19 : decode jdk_68_method_2_code 19 = .ok (.putfield 22, 3) := by decide +kernel
theorem d13_22 : decode jdk_68_method_2_code 22 = .ok (.goto 16, 3) := by decide +kernel
theorem d13_38 : decode jdk_68_method_2_code 38 = .ok (.return_, 1) := by decide +kernel
theorem ef_asbi (m : MethodId) (a0 : Addr) : entryFrame m #[(.ref a0), (.int 16)] 2 = mkF m 0 #[.val (.ref a0), .val (.int 16)] [] := by first | (simp [entryFrame, mkF, argsToLocals, Value.category]; done) | rfl
def Q_asbi (Z : State) (a0 : Addr) (cs : Int32) (h0 : Heap) (n0 : Nat) (v : Option Value) (h : Heap) (L : List Loc) : Prop := ∃ arr : Addr, ∃ kr : ClassId, v = none ∧ Fr n0 L ∧ Keep h0 h [a0] ∧ h0.size ≤ arr ∧ Exa Z h a0 "java/lang/StringBuilder" ∧ Fld Z h a0 "java/lang/AbstractStringBuilder" "value" "[B" (.ref arr) ∧ Fld Z h a0 "java/lang/AbstractStringBuilder" "coder" "B" (.int 0) ∧ Fld Z h a0 "java/lang/AbstractStringBuilder" "count" "I" (.int 0) ∧ Arv Z h arr kr .byte (16 : Int32) [(.int 0), (.int 0), (.int 0), (.int 0), (.int 0), (.int 0), (.int 0), (.int 0), (.int 0), (.int 0), (.int 0), (.int 0), (.int 0), (.int 0), (.int 0), (.int 0)] (.int 0)
set_option maxRecDepth 65536 in
set_option maxHeartbeats 40000000 in
theorem asbi (l : Launch) (Z : State) (av0 : Array Value) (hw : ∀ d ∈ tables_1, d.before av0 Z = true) (ws : List Jvm.Cond) (a0 : Addr) (cs : Int32) (h0 : Heap) (n0 : Nat) (Z0 : n0 ≤ h0.size) (p0_O : Old Z n0 h0) (p1_S : Sta Z Z.heap "java/lang/String" "COMPACT_STRINGS" "Z" (.int cs)) (hcs : ¬ (cs = (0 : Int32))) (p3_E : Exa Z h0 a0 "java/lang/StringBuilder") (p4_F : Fld Z h0 a0 "java/lang/AbstractStringBuilder" "value" "[B" .null) (p5_F : Fld Z h0 a0 "java/lang/AbstractStringBuilder" "coder" "B" (.int 0)) (p6_F : Fld Z h0 a0 "java/lang/AbstractStringBuilder" "count" "I" (.int 0)) (p7_g : n0 ≤ a0) :
    MetFree l (⟨"java/lang/AbstractStringBuilder", "<init>", "(I)V"⟩ : MethodName) (head1 (Jvm.Cond.code (⟨"java/lang/AbstractStringBuilder", "<init>", "(I)V"⟩ : MethodName) jdk_68_method_2_code 2 none :: ws) ({ frames := 1, cells := 1, slots := 16, locals := 12 } : Room)) (fun a U => a = #[(.ref a0), (.int 16)] ∧ Z.Warmed39 U.vm ∧ U.heap = h0) (fun _ _ _ _ _ => True) (fun _ U o U' => ∃ v L, o = .returned v ∧ Q_asbi Z a0 cs h0 n0 v U'.heap L ∧ FrameEnd U o U' L ({ frames := 1, cells := 1, slots := 16, locals := 12 } : Room).cells ({ frames := 1, cells := 1, slots := 16, locals := 12 } : Room).slots) := by
  refine MetFree.of_bodySF (plainFor_of_name pn_java_lang_AbstractStringBuilder) hisR ?_
  intro p e s m args below meth c s₁ Bd hml0 hP hK
  obtain ⟨rfl, hZ, hh⟩ := hP
  have hx := Bd.exec
  have hby := Bd.bytes
  have hml : c.maxLocals = 2 := hml0
  have hown : s.vm.findClass "java/lang/AbstractStringBuilder" = some m.cls := findClass_of_methodNamed Bd.named
  have hnm := (name_of_methodNamed Bd.named Bd.method).1
  have X0 : Stand p l e ({ frames := 1, cells := 1, slots := 16, locals := 12 } : Room) s m #[(.ref a0), (.int 16)] below meth c s₁ [] 0 0 := Stand.of_body Bd
  have e0 : s₁.heap = h0 := by rw [← hh, Bd.state]; rfl
  have N0 := Fr.nil n0
  have pre0 : ∀ tz_, Steps p.tables e below (s₁.setTop (mkF m 0 #[.val (.ref a0), .val (.int 16)] [])) tz_ → Steps p.tables e below (s₁.setTop (entryFrame m #[(.ref a0), (.int 16)] 2)) tz_ := fun tz_ kz_ => castTop (ef_asbi m a0) kz_
  have K0 : Keep h0 h0 [a0] := Keep.refl h0 [a0]
  obtain ⟨T31, X31, e31, st31⟩ := initO X0 hx hZ hown (hw _ (mg (i := 76) rfl)) (hw _ (mg (i := 24) rfl)) (hw _ (mg (i := 25) rfl)) e0 (g := (mkF m 1 #[.val (.ref a0), .val (.int 16)] [(.ref a0)])) rfl (by rw [hml]; rfl) rfl (hb hby d13_1) (by decide) (W := 0) (by show 2 * 0 + _ ≤ _; exact Nat.le_of_eq rfl) (by decide)
  obtain ⟨T32, X32, e32, st32⟩ := getS2 X31 hx hZ hown (host := "") (Or.inl (hw _ (mg (i := 77) rfl))) Via.refl e31 (p1_S.ext p0_O.2) (g := (mkF m 4 #[.val (.ref a0), .val (.int 16)] [])) rfl (hb hby d13_4)
  obtain ⟨T33, h33, k33, X33, e33, E33, A33, st33⟩ := newP X32 hx hZ (hw _ (mg (i := 18) rfl)) e32 (g := (mkF m 12 #[.val (.ref a0), .val (.int 16)] [(.int 16), (.ref a0)])) rfl (hb hby d13_12) rfl (by decide) (cap := 16) (by decide) (by decide) (by decide) (by decide)
  obtain ⟨b33, q33⟩ : ∃ z, z = h0.size := ⟨_, rfl⟩
  rw [← q33] at A33 st33
  have g_b33 : n0 ≤ b33 := Nat.le_trans (own_le p0_O) (Nat.le_of_eq q33.symm)
  have sz_b33 : h0.size ≤ b33 := Nat.le_trans K0.1 (Nat.le_of_eq q33.symm)
  have V33 : Arv Z h33 b33 k33 .byte (16 : Int32) [(.int 0), (.int 0), (.int 0), (.int 0), (.int 0), (.int 0), (.int 0), (.int 0), (.int 0), (.int 0), (.int 0), (.int 0), (.int 0), (.int 0), (.int 0), (.int 0)] (.int 0) := (Arv.new A33 (by decide)).pad (pad_rep [] (.int 0) 16)
  have K34 := K0.ext E33
  have O34 := p0_O.ext E33
  have f35 := (p4_F.ext E33)
  have f36 := (p3_E.ext E33)
  obtain ⟨T37, h37, X37, e37, W37, st37⟩ := putF X33 hx hZ hown (host := "") (Or.inl (hw _ (mg (i := 78) rfl))) Via.refl e33 f35 f36 (Or.inl (hw _ (mg (i := 79) rfl))) (hw _ (mg (i := 65) rfl)) (ty := (.array .byte)) (by decide) rfl rfl (g := (mkF m 14 #[.val (.ref a0), .val (.int 16)] [(.ref b33), (.ref a0)])) rfl rfl (hb hby d13_14)
  have Fw37 : Fld Z h37 a0 "java/lang/AbstractStringBuilder" "value" "[B" (.ref b33) := f35.same W37
  have N37 := Fr.snoc X37 N0 p7_g
  have K38 := K34.wr W37 (Or.inl (List.mem_of_getElem? (i := 0) rfl))
  have O38 := O34.wr W37 p7_g
  have f39 := ((p5_F.ext E33).other W37 (Or.inr (slot_ne (Or.inl (hw _ (mg (i := 81) rfl))) (Or.inl (hw _ (mg (i := 79) rfl))) (by decide) (t := .byte) (t' := (.array .byte)) (by decide) (by decide))))
  have f40 := (f36.wr W37)
  obtain ⟨T41, h41, X41, e41, W41, st41⟩ := putF X37 hx hZ hown (host := "") (Or.inl (hw _ (mg (i := 80) rfl))) Via.refl e37 f39 f40 (Or.inl (hw _ (mg (i := 81) rfl))) (hw _ (mg (i := 65) rfl)) (ty := .byte) (by decide) rfl rfl (g := (mkF m 19 #[.val (.ref a0), .val (.int 16)] [(.int 0), (.ref a0)])) rfl rfl (hb hby d13_19)
  have Fw41 : Fld Z h41 a0 "java/lang/AbstractStringBuilder" "coder" "B" (.int 0) := f39.same W41
  have N41 := Fr.snoc X41 N37 p7_g
  have K42 := K38.wr W41 (Or.inl (List.mem_of_getElem? (i := 0) rfl))
  have O42 := O38.wr W41 p7_g
  obtain ⟨fs, hrL, hrun, hended, hW, hsame⟩ := X41.leave (v := none) (fun _ => rfl)
  have f43 := (f40.wr W41)
  have f44 := (Fw37.other W41 (Or.inr (slot_ne (Or.inl (hw _ (mg (i := 79) rfl))) (Or.inl (hw _ (mg (i := 81) rfl))) (by decide) (t := (.array .byte)) (t' := .byte) (by decide) (by decide))))
  have f45 := (((p6_F.ext E33).other W37 (Or.inr (slot_ne (Or.inl (hw _ (mg (i := 103) rfl))) (Or.inl (hw _ (mg (i := 79) rfl))) (by decide) (t := .int) (t' := (.array .byte)) (by decide) (by decide)))).other W41 (Or.inr (slot_ne (Or.inl (hw _ (mg (i := 103) rfl))) (Or.inl (hw _ (mg (i := 81) rfl))) (by decide) (t := .int) (t' := .byte) (by decide) (by decide))))
  have ne46 : b33 ≠ a0 := (Ne.symm (Nat.ne_of_lt (Nat.lt_of_lt_of_le p3_E.lt (Nat.le_of_eq q33.symm))))
  have f47 := ((V33.other W37 ne46).other W41 ne46)
  refine ⟨_, _, pre0 _ ?_, hrun, hended, _, _, rfl, ?_, ⟨_, rfl⟩, hW, hsame.mono (by decide) (by decide)⟩
  · show Steps p.tables e below (s₁.setTop (mkF m 0 #[.val (.ref a0), .val (.int 16)] [])) _
    refine XS.aloadN X0.here hx rfl (hb hby d13_0) rfl rfl ?_
    show Steps p.tables e below (s₁.setTop (mkF m 1 #[.val (.ref a0), .val (.int 16)] [(.ref a0)])) _
    refine st31 _ ?_
    show Steps p.tables e below (T31.setTop (mkF m 4 #[.val (.ref a0), .val (.int 16)] [])) _
    refine st32 _ ?_
    show Steps p.tables e below (T32.setTop (mkF m 7 #[.val (.ref a0), .val (.int 16)] [(.int cs)])) _
    refine XS.ifNo X32.here hx rfl (hb hby d13_7) rfl ((if0 _ _).trans (feq hcs).1) ?_
    refine XS.aloadN X32.here hx rfl (hb hby d13_10) rfl rfl ?_
    refine XS.iloadN X32.here hx rfl (hb hby d13_11) rfl ?_
    show Steps p.tables e below (T32.setTop (mkF m 12 #[.val (.ref a0), .val (.int 16)] [(.int 16), (.ref a0)])) _
    refine st33 _ ?_
    show Steps p.tables e below (T33.setTop (mkF m 14 #[.val (.ref a0), .val (.int 16)] [(.ref b33), (.ref a0)])) _
    refine st37 _ ?_
    refine XS.aloadN X37.here hx rfl (hb hby d13_17) rfl rfl ?_
    refine XS.iconst X37.here hx rfl (hb hby d13_18) ?_
    show Steps p.tables e below (T37.setTop (mkF m 19 #[.val (.ref a0), .val (.int 16)] [(.int 0), (.ref a0)])) _
    refine st41 _ ?_
    show Steps p.tables e below (T41.setTop (mkF m 22 #[.val (.ref a0), .val (.int 16)] [])) _
    refine XS.goto X41.here hx rfl (pc0 := 22) (pc' := 38) rfl (hb hby d13_22) (by decide) (by decide) ?_
    show Steps p.tables e below (T41.setTop (mkF m 38 #[.val (.ref a0), .val (.int 16)] [])) _
    exact X41.returnOut hx Bd.returns (hb hby d13_38) hrL
  · show Q_asbi _ _ _ _ _ _  T41.heap _
    rw [e41]
    exact ⟨b33, k33, rfl, N41, K42, sz_b33, f43, f44, Fw41, f45, f47⟩
theorem d12_0 : decode jdk_67_method_1_code 0 = .ok (.aload_n 0, 1) := by decide +kernel
theorem d12_1 : decode jdk_67_method_1_code 1 = .ok (.bipush 16, 2) := by decide +kernel
theorem d12_3 : decode jdk_67_method_1_code 3 = .ok (.invokespecial 1, 3) := by decide +kernel
theorem d12_6 : decode jdk_67_method_1_code 6 = .ok (.return_, 1) := by decide +kernel
theorem ef_sbi (m : MethodId) (a0 : Addr) : entryFrame m #[(.ref a0)] 1 = mkF m 0 #[.val (.ref a0)] [] := by first | (simp [entryFrame, mkF, argsToLocals, Value.category]; done) | rfl
def Q_sbi (Z : State) (a0 : Addr) (cs : Int32) (h0 : Heap) (n0 : Nat) (v : Option Value) (h : Heap) (L : List Loc) : Prop := ∃ arr : Addr, ∃ kr : ClassId, v = none ∧ Fr n0 L ∧ Keep h0 h [a0] ∧ h0.size ≤ arr ∧ Exa Z h a0 "java/lang/StringBuilder" ∧ Fld Z h a0 "java/lang/AbstractStringBuilder" "value" "[B" (.ref arr) ∧ Fld Z h a0 "java/lang/AbstractStringBuilder" "coder" "B" (.int 0) ∧ Fld Z h a0 "java/lang/AbstractStringBuilder" "count" "I" (.int 0) ∧ Arv Z h arr kr .byte (16 : Int32) [(.int 0), (.int 0), (.int 0), (.int 0), (.int 0), (.int 0), (.int 0), (.int 0), (.int 0), (.int 0), (.int 0), (.int 0), (.int 0), (.int 0), (.int 0), (.int 0)] (.int 0)
set_option maxRecDepth 65536 in
set_option maxHeartbeats 40000000 in
theorem sbi (l : Launch) (Z : State) (av0 : Array Value) (hw : ∀ d ∈ tables_1, d.before av0 Z = true) (ws : List Jvm.Cond) (a0 : Addr) (cs : Int32) (h0 : Heap) (n0 : Nat) (Z0 : n0 ≤ h0.size) (p0_O : Old Z n0 h0) (p1_S : Sta Z Z.heap "java/lang/String" "COMPACT_STRINGS" "Z" (.int cs)) (hcs : ¬ (cs = (0 : Int32))) (p3_E : Exa Z h0 a0 "java/lang/StringBuilder") (p4_F : Fld Z h0 a0 "java/lang/AbstractStringBuilder" "value" "[B" .null) (p5_F : Fld Z h0 a0 "java/lang/AbstractStringBuilder" "coder" "B" (.int 0)) (p6_F : Fld Z h0 a0 "java/lang/AbstractStringBuilder" "count" "I" (.int 0)) (p7_g : n0 ≤ a0) :
    MetFree l (⟨"java/lang/StringBuilder", "<init>", "()V"⟩ : MethodName) (head1 (Jvm.Cond.code (⟨"java/lang/StringBuilder", "<init>", "()V"⟩ : MethodName) jdk_67_method_1_code 1 none :: ws) ({ frames := 2, cells := 1, slots := 16, locals := 25 } : Room)) (fun a U => a = #[(.ref a0)] ∧ Z.Warmed39 U.vm ∧ U.heap = h0) (fun _ _ _ _ _ => True) (fun _ U o U' => ∃ v L, o = .returned v ∧ Q_sbi Z a0 cs h0 n0 v U'.heap L ∧ FrameEnd U o U' L ({ frames := 2, cells := 1, slots := 16, locals := 25 } : Room).cells ({ frames := 2, cells := 1, slots := 16, locals := 25 } : Room).slots) := by
  refine MetFree.of_bodySF (plainFor_of_name pn_java_lang_StringBuilder) hisR ?_
  intro p e s m args below meth c s₁ Bd hml0 hP hK
  obtain ⟨rfl, hZ, hh⟩ := hP
  have hx := Bd.exec
  have hby := Bd.bytes
  have hml : c.maxLocals = 1 := hml0
  have hown : s.vm.findClass "java/lang/StringBuilder" = some m.cls := findClass_of_methodNamed Bd.named
  have hnm := (name_of_methodNamed Bd.named Bd.method).1
  have X0 : Stand p l e ({ frames := 2, cells := 1, slots := 16, locals := 25 } : Room) s m #[(.ref a0)] below meth c s₁ [] 0 0 := Stand.of_body Bd
  have e0 : s₁.heap = h0 := by rw [← hh, Bd.state]; rfl
  have N0 := Fr.nil n0
  have pre0 : ∀ tz_, Steps p.tables e below (s₁.setTop (mkF m 0 #[.val (.ref a0)] [])) tz_ → Steps p.tables e below (s₁.setTop (entryFrame m #[(.ref a0)] 1)) tz_ := fun tz_ kz_ => castTop (ef_sbi m a0) kz_
  have K0 : Keep h0 h0 [a0] := Keep.refl h0 [a0]
  -- pc 3: AbstractStringBuilder.init
  obtain ⟨_, _, ⟨T31, L31, k31, n31⟩, -, X31, ⟨Lc31, hQ31, l31, y31, z31⟩, st31⟩ := X0.specialBack hx (y := (⟨"java/lang/AbstractStringBuilder", "<init>", "(I)V"⟩ : MethodName)) rfl hown (mvT hZ (hw _ (mg (i := 70) rfl))) (mvT hZ (hw _ (mg (i := 71) rfl))) (mvT hZ (hw _ (mg (i := 75) rfl))) (by decide) (backOf (W := 0) (asbi l Z av0 hw [] a0 cs h0 n0 (own_le p0_O) p0_O p1_S (hcs : ¬ (cs = (0 : Int32))) p3_E p4_F p5_F p6_F p7_g) hZ (hw _ (mg (i := 75) rfl)) (hw _ (mg (i := 74) rfl)) (by decide) (by decide)) (g := (mkF m 3 #[.val (.ref a0)] [(.int 16), (.ref a0)])) rfl (by rw [hml]; rfl) (Steps.refl _) (a := a0) (argsL := [(.int 16)]) (rest := []) (lenOf pd_10 rfl) rfl (by show 2 * 0 + _ ≤ _; exact Nat.le_of_eq rfl) (hb hby d12_3) (fun vmx hWx => ⟨rfl, e0, (by decide : 0 + 1 ≤ _), (by decide : 0 + 16 ≤ _)⟩)
  dsimp only [Pt.U, Pt.locs, Pt.cells, Pt.slots] at X31 l31 y31 z31 st31 hQ31
  subst l31 y31 z31
  obtain ⟨arr_31, kr_31, rv31, Nq31, Kq31, u31_0, u31_1, u31_2, u31_3, u31_4, u31_5⟩ := hQ31
  subst rv31
  have N31 := Fr.app N0 Nq31
  have g_arr_31 : n0 ≤ arr_31 := Nat.le_trans (own_le p0_O) u31_0
  have sz_arr_31 : h0.size ≤ arr_31 := Nat.le_trans K0.1 u31_0
  have K32 := K0.trans Kq31 (allS (Or.inl (List.mem_of_getElem? (i := 0) rfl)) all0)
  have O32 := p0_O.keep Kq31 (allS p7_g all0)
  obtain ⟨fs, hrL, hrun, hended, hW, hsame⟩ := X31.leave (v := none) (fun _ => rfl)
  refine ⟨_, _, pre0 _ ?_, hrun, hended, _, _, rfl, ?_, ⟨_, rfl⟩, hW, hsame.mono (by decide) (by decide)⟩
  · show Steps p.tables e below (s₁.setTop (mkF m 0 #[.val (.ref a0)] [])) _
    refine XS.aloadN X0.here hx rfl (hb hby d12_0) rfl rfl ?_
    refine XS.bipush X0.here hx rfl (hb hby d12_1) ?_
    show Steps p.tables e below (s₁.setTop (mkF m 3 #[.val (.ref a0)] [(.int 16), (.ref a0)])) _
    refine st31.trans ?_
    show Steps p.tables e below (T31.setTop (mkF m 6 #[.val (.ref a0)] [])) _
    exact X31.returnOut hx Bd.returns (hb hby d12_6) hrL
  · show Q_sbi _ _ _ _ _ _  T31.heap _
    exact ⟨arr_31, kr_31, rfl, N31, K32, sz_arr_31, u31_1, u31_2, u31_3, u31_4, u31_5⟩
theorem d25_0 : decode jdk_68_method_64_code 0 = .ok (.aload_n 0, 1) := by decide +kernel
theorem d25_1 : decode jdk_68_method_64_code 1 = .ok (.getfield 15, 3) := by decide +kernel
theorem d25_4 : decode jdk_68_method_64_code 4 = .ok (.areturn, 1) := by decide +kernel
theorem ef_gv (m : MethodId) (a0 : Addr) : entryFrame m #[(.ref a0)] 1 = mkF m 0 #[.val (.ref a0)] [] := by first | (simp [entryFrame, mkF, argsToLocals, Value.category]; done) | rfl
def Q_gv (Z : State) (a0 : Addr) (arr : Addr) (h0 : Heap) (n0 : Nat) (v : Option Value) (h : Heap) (L : List Loc) : Prop := v = some (.ref arr) ∧ Fr n0 L ∧ h = h0
set_option maxRecDepth 65536 in
set_option maxHeartbeats 40000000 in
theorem gv (l : Launch) (Z : State) (av0 : Array Value) (hw : ∀ d ∈ tables_1, d.before av0 Z = true) (ws : List Jvm.Cond) (a0 : Addr) (arr : Addr) (h0 : Heap) (n0 : Nat) (Z0 : n0 ≤ h0.size) (p0_F : Fld Z h0 a0 "java/lang/AbstractStringBuilder" "value" "[B" (.ref arr)) :
    MetFree l (⟨"java/lang/AbstractStringBuilder", "getValue", "()[B"⟩ : MethodName) (head1 (Jvm.Cond.code (⟨"java/lang/AbstractStringBuilder", "getValue", "()[B"⟩ : MethodName) jdk_68_method_64_code 1 (some (.array .byte)) :: ws) ({ frames := 0, cells := 0, slots := 0, locals := 0 } : Room)) (fun a U => a = #[(.ref a0)] ∧ Z.Warmed39 U.vm ∧ U.heap = h0) (fun _ _ _ _ _ => True) (fun _ U o U' => ∃ v L, o = .returned v ∧ Q_gv Z a0 arr h0 n0 v U'.heap L ∧ FrameEnd U o U' L ({ frames := 0, cells := 0, slots := 0, locals := 0 } : Room).cells ({ frames := 0, cells := 0, slots := 0, locals := 0 } : Room).slots) := by
  refine MetFree.of_bodySF (plainFor_of_name pn_java_lang_AbstractStringBuilder) hisR ?_
  intro p e s m args below meth c s₁ Bd hml0 hP hK
  obtain ⟨rfl, hZ, hh⟩ := hP
  have hx := Bd.exec
  have hby := Bd.bytes
  have hml : c.maxLocals = 1 := hml0
  have hown : s.vm.findClass "java/lang/AbstractStringBuilder" = some m.cls := findClass_of_methodNamed Bd.named
  have hnm := (name_of_methodNamed Bd.named Bd.method).1
  have X0 : Stand p l e ({ frames := 0, cells := 0, slots := 0, locals := 0 } : Room) s m #[(.ref a0)] below meth c s₁ [] 0 0 := Stand.of_body Bd
  have e0 : s₁.heap = h0 := by rw [← hh, Bd.state]; rfl
  have N0 := Fr.nil n0
  have pre0 : ∀ tz_, Steps p.tables e below (s₁.setTop (mkF m 0 #[.val (.ref a0)] [])) tz_ → Steps p.tables e below (s₁.setTop (entryFrame m #[(.ref a0)] 1)) tz_ := fun tz_ kz_ => castTop (ef_gv m a0) kz_
  obtain ⟨T31, X31, e31, st31⟩ := getF X0 hx hZ hown (host := "") (Or.inl (hw _ (mg (i := 78) rfl))) Via.refl e0 p0_F (g := (mkF m 1 #[.val (.ref a0)] [(.ref a0)])) rfl rfl (hb hby d25_1)
  obtain ⟨fs, hrL, hrun, hended, hW, hsame⟩ := X31.leave (v := some (.ref arr)) (fun h => by rw [Bd.returns] at h; cases h)
  refine ⟨_, _, pre0 _ ?_, hrun, hended, _, _, rfl, ?_, ⟨_, rfl⟩, hW, hsame.mono (by decide) (by decide)⟩
  · show Steps p.tables e below (s₁.setTop (mkF m 0 #[.val (.ref a0)] [])) _
    refine XS.aloadN X0.here hx rfl (hb hby d25_0) rfl rfl ?_
    show Steps p.tables e below (s₁.setTop (mkF m 1 #[.val (.ref a0)] [(.ref a0)])) _
    refine st31 _ ?_
    show Steps p.tables e below (T31.setTop (mkF m 4 #[.val (.ref a0)] [(.ref arr)])) _
    exact retOut X31 hx Bd.returns rfl (Or.inr (Or.inr (Or.inr (Or.inr ⟨rfl, rfl, rfl⟩)))) (hb hby d25_4) hrL
  · show Q_gv _ _ _ _ _ _  T31.heap _
    rw [e31]
    exact ⟨rfl, N0, rfl⟩
theorem d27_0 : decode jdk_68_method_6_code 0 = .ok (.aload_n 0, 1) := by decide +kernel
theorem d27_1 : decode jdk_68_method_6_code 1 = .ok (.getfield 79, 3) := by decide +kernel
theorem d27_4 : decode jdk_68_method_6_code 4 = .ok (.ireturn, 1) := by decide +kernel
theorem ef_al (m : MethodId) (a0 : Addr) : entryFrame m #[(.ref a0)] 1 = mkF m 0 #[.val (.ref a0)] [] := by first | (simp [entryFrame, mkF, argsToLocals, Value.category]; done) | rfl
def Q_al (Z : State) (a0 : Addr) (cnt : Int32) (h0 : Heap) (n0 : Nat) (v : Option Value) (h : Heap) (L : List Loc) : Prop := v = some (.int cnt) ∧ Fr n0 L ∧ h = h0
set_option maxRecDepth 65536 in
set_option maxHeartbeats 40000000 in
theorem al (l : Launch) (Z : State) (av0 : Array Value) (hw : ∀ d ∈ tables_1, d.before av0 Z = true) (ws : List Jvm.Cond) (a0 : Addr) (cnt : Int32) (h0 : Heap) (n0 : Nat) (Z0 : n0 ≤ h0.size) (p0_F : Fld Z h0 a0 "java/lang/AbstractStringBuilder" "count" "I" (.int cnt)) :
    MetFree l (⟨"java/lang/AbstractStringBuilder", "length", "()I"⟩ : MethodName) (head1 (Jvm.Cond.code (⟨"java/lang/AbstractStringBuilder", "length", "()I"⟩ : MethodName) jdk_68_method_6_code 1 (some .int) :: ws) ({ frames := 0, cells := 0, slots := 0, locals := 0 } : Room)) (fun a U => a = #[(.ref a0)] ∧ Z.Warmed39 U.vm ∧ U.heap = h0) (fun _ _ _ _ _ => True) (fun _ U o U' => ∃ v L, o = .returned v ∧ Q_al Z a0 cnt h0 n0 v U'.heap L ∧ FrameEnd U o U' L ({ frames := 0, cells := 0, slots := 0, locals := 0 } : Room).cells ({ frames := 0, cells := 0, slots := 0, locals := 0 } : Room).slots) := by
  refine MetFree.of_bodySF (plainFor_of_name pn_java_lang_AbstractStringBuilder) hisR ?_
  intro p e s m args below meth c s₁ Bd hml0 hP hK
  obtain ⟨rfl, hZ, hh⟩ := hP
  have hx := Bd.exec
  have hby := Bd.bytes
  have hml : c.maxLocals = 1 := hml0
  have hown : s.vm.findClass "java/lang/AbstractStringBuilder" = some m.cls := findClass_of_methodNamed Bd.named
  have hnm := (name_of_methodNamed Bd.named Bd.method).1
  have X0 : Stand p l e ({ frames := 0, cells := 0, slots := 0, locals := 0 } : Room) s m #[(.ref a0)] below meth c s₁ [] 0 0 := Stand.of_body Bd
  have e0 : s₁.heap = h0 := by rw [← hh, Bd.state]; rfl
  have N0 := Fr.nil n0
  have pre0 : ∀ tz_, Steps p.tables e below (s₁.setTop (mkF m 0 #[.val (.ref a0)] [])) tz_ → Steps p.tables e below (s₁.setTop (entryFrame m #[(.ref a0)] 1)) tz_ := fun tz_ kz_ => castTop (ef_al m a0) kz_
  obtain ⟨T31, X31, e31, st31⟩ := getF X0 hx hZ hown (host := "") (Or.inl (hw _ (mg (i := 102) rfl))) Via.refl e0 p0_F (g := (mkF m 1 #[.val (.ref a0)] [(.ref a0)])) rfl rfl (hb hby d27_1)
  obtain ⟨fs, hrL, hrun, hended, hW, hsame⟩ := X31.leave (v := some (.int cnt)) (fun h => by rw [Bd.returns] at h; cases h)
  refine ⟨_, _, pre0 _ ?_, hrun, hended, _, _, rfl, ?_, ⟨_, rfl⟩, hW, hsame.mono (by decide) (by decide)⟩
  · show Steps p.tables e below (s₁.setTop (mkF m 0 #[.val (.ref a0)] [])) _
    refine XS.aloadN X0.here hx rfl (hb hby d27_0) rfl rfl ?_
    show Steps p.tables e below (s₁.setTop (mkF m 1 #[.val (.ref a0)] [(.ref a0)])) _
    refine st31 _ ?_
    show Steps p.tables e below (T31.setTop (mkF m 4 #[.val (.ref a0)] [(.int cnt)])) _
    exact retI X31 hx Bd.returns (hb hby d27_4) hrL
  · show Q_al _ _ _ _ _ _  T31.heap _
    rw [e31]
    exact ⟨rfl, N0, rfl⟩
theorem d26_0 : decode jdk_67_method_93_code 0 = .ok (.aload_n 0, 1) := by decide +kernel
theorem d26_1 : decode jdk_67_method_93_code 1 = .ok (.invokespecial 343, 3) := by decide +kernel
theorem d26_4 : decode jdk_67_method_93_code 4 = .ok (.ireturn, 1) := by decide +kernel
theorem ef_sl (m : MethodId) (a0 : Addr) : entryFrame m #[(.ref a0)] 1 = mkF m 0 #[.val (.ref a0)] [] := by first | (simp [entryFrame, mkF, argsToLocals, Value.category]; done) | rfl
def Q_sl (Z : State) (a0 : Addr) (cnt : Int32) (h0 : Heap) (n0 : Nat) (v : Option Value) (h : Heap) (L : List Loc) : Prop := v = some (.int cnt) ∧ Fr n0 L ∧ h = h0
set_option maxRecDepth 65536 in
set_option maxHeartbeats 40000000 in
theorem sl (l : Launch) (Z : State) (av0 : Array Value) (hw : ∀ d ∈ tables_1, d.before av0 Z = true) (ws : List Jvm.Cond) (a0 : Addr) (cnt : Int32) (h0 : Heap) (n0 : Nat) (Z0 : n0 ≤ h0.size) (p0_E : Exa Z h0 a0 "java/lang/StringBuilder") (p1_F : Fld Z h0 a0 "java/lang/AbstractStringBuilder" "count" "I" (.int cnt)) :
    MetFree l (⟨"java/lang/StringBuilder", "length", "()I"⟩ : MethodName) (head1 (Jvm.Cond.code (⟨"java/lang/StringBuilder", "length", "()I"⟩ : MethodName) jdk_67_method_93_code 1 (some .int) :: ws) ({ frames := 1, cells := 0, slots := 0, locals := 12 } : Room)) (fun a U => a = #[(.ref a0)] ∧ Z.Warmed39 U.vm ∧ U.heap = h0) (fun _ _ _ _ _ => True) (fun _ U o U' => ∃ v L, o = .returned v ∧ Q_sl Z a0 cnt h0 n0 v U'.heap L ∧ FrameEnd U o U' L ({ frames := 1, cells := 0, slots := 0, locals := 12 } : Room).cells ({ frames := 1, cells := 0, slots := 0, locals := 12 } : Room).slots) := by
  refine MetFree.of_bodySF (plainFor_of_name pn_java_lang_StringBuilder) hisR ?_
  intro p e s m args below meth c s₁ Bd hml0 hP hK
  obtain ⟨rfl, hZ, hh⟩ := hP
  have hx := Bd.exec
  have hby := Bd.bytes
  have hml : c.maxLocals = 1 := hml0
  have hown : s.vm.findClass "java/lang/StringBuilder" = some m.cls := findClass_of_methodNamed Bd.named
  have hnm := (name_of_methodNamed Bd.named Bd.method).1
  have X0 : Stand p l e ({ frames := 1, cells := 0, slots := 0, locals := 12 } : Room) s m #[(.ref a0)] below meth c s₁ [] 0 0 := Stand.of_body Bd
  have e0 : s₁.heap = h0 := by rw [← hh, Bd.state]; rfl
  have N0 := Fr.nil n0
  have pre0 : ∀ tz_, Steps p.tables e below (s₁.setTop (mkF m 0 #[.val (.ref a0)] [])) tz_ → Steps p.tables e below (s₁.setTop (entryFrame m #[(.ref a0)] 1)) tz_ := fun tz_ kz_ => castTop (ef_sl m a0) kz_
  -- pc 1: AbstractStringBuilder.length
  obtain ⟨_, _, ⟨T31, L31, k31, n31⟩, -, X31, ⟨Lc31, hQ31, l31, y31, z31⟩, st31⟩ := superBack X0 hx hZ (y := (⟨"java/lang/AbstractStringBuilder", "length", "()I"⟩ : MethodName)) hown (hw _ (mg (i := 153) rfl)) (own_sameM (hw _ (mg (i := 149) rfl)) (hw _ (mg (i := 107) rfl)) rfl (by decide)) (hw _ (mg (i := 149) rfl)) (hw _ (mg (i := 89) rfl)) (by decide) (backOf (W := 0) (al l Z av0 hw [] a0 cnt h0 n0 Z0 p1_F) hZ (hw _ (mg (i := 154) rfl)) (hw _ (mg (i := 74) rfl)) (by decide) (by decide)) e0 (Ins.self p0_E) (g := (mkF m 1 #[.val (.ref a0)] [(.ref a0)])) rfl (by rw [hml]; rfl) (hw _ (mg (i := 154) rfl)) (argsL := []) (rest := []) (lenOf pd_13 rfl) rfl (by show 2 * 0 + _ ≤ _; exact Nat.le_of_eq rfl) (hb hby d26_1) (fun vmx hWx => ⟨rfl, e0, (by decide : 0 + 0 ≤ _), (by decide : 0 + 0 ≤ _)⟩)
  dsimp only [Pt.U, Pt.locs, Pt.cells, Pt.slots] at X31 l31 y31 z31 st31 hQ31
  subst l31 y31 z31
  obtain ⟨rv31, Nq31, Kq31⟩ := hQ31
  subst rv31
  have N31 := Fr.app N0 Nq31
  obtain ⟨fs, hrL, hrun, hended, hW, hsame⟩ := X31.leave (v := some (.int cnt)) (fun h => by rw [Bd.returns] at h; cases h)
  refine ⟨_, _, pre0 _ ?_, hrun, hended, _, _, rfl, ?_, ⟨_, rfl⟩, hW, hsame.mono (by decide) (by decide)⟩
  · show Steps p.tables e below (s₁.setTop (mkF m 0 #[.val (.ref a0)] [])) _
    refine XS.aloadN X0.here hx rfl (hb hby d26_0) rfl rfl ?_
    show Steps p.tables e below (s₁.setTop (mkF m 1 #[.val (.ref a0)] [(.ref a0)])) _
    refine st31.trans ?_
    show Steps p.tables e below (T31.setTop (mkF m 4 #[.val (.ref a0)] [(.int cnt)])) _
    exact retI X31 hx Bd.returns (hb hby d26_4) hrL
  · show Q_sl _ _ _ _ _ _  T31.heap _
    rw [Kq31]
    exact ⟨rfl, N31, rfl⟩
theorem d28_0 : decode jdk_68_method_68_code 0 = .ok (.getstatic 18, 3) := by decide +kernel
theorem d28_3 : decode jdk_68_method_68_code 3 = .ok (.ifCond .eq 14, 3) := by decide +kernel
theorem d28_6 : decode jdk_68_method_68_code 6 = .ok (.aload_n 0, 1) := by decide +kernel
theorem d28_7 : decode jdk_68_method_68_code 7 = .ok (.getfield 22, 3) := by decide +kernel
theorem d28_10 : decode jdk_68_method_68_code 10 = .ok (.ifCond .ne 7, 3) := by decide +kernel
theorem d28_13 : decode jdk_68_method_68_code 13 = .ok (.iconst 1, 1) := by decide +kernel
theorem d28_14 : decode jdk_68_method_68_code 14 = .ok (.goto 4, 3) := by decide +kernel
theorem d28_18 : decode jdk_68_method_68_code 18 = .ok (.ireturn, 1) := by decide +kernel
theorem ef_ail (m : MethodId) (a0 : Addr) : entryFrame m #[(.ref a0)] 1 = mkF m 0 #[.val (.ref a0)] [] := by first | (simp [entryFrame, mkF, argsToLocals, Value.category]; done) | rfl
def Q_ail (Z : State) (a0 : Addr) (cs : Int32) (h0 : Heap) (n0 : Nat) (v : Option Value) (h : Heap) (L : List Loc) : Prop := v = some (.int 1) ∧ Fr n0 L ∧ h = h0
set_option maxRecDepth 65536 in
set_option maxHeartbeats 40000000 in
theorem ail (l : Launch) (Z : State) (av0 : Array Value) (hw : ∀ d ∈ tables_1, d.before av0 Z = true) (ws : List Jvm.Cond) (a0 : Addr) (cs : Int32) (h0 : Heap) (n0 : Nat) (Z0 : n0 ≤ h0.size) (p0_O : Old Z n0 h0) (p1_S : Sta Z Z.heap "java/lang/String" "COMPACT_STRINGS" "Z" (.int cs)) (hcs : ¬ (cs = (0 : Int32))) (p3_F : Fld Z h0 a0 "java/lang/AbstractStringBuilder" "coder" "B" (.int 0)) :
    MetFree l (⟨"java/lang/AbstractStringBuilder", "isLatin1", "()Z"⟩ : MethodName) (head1 (Jvm.Cond.code (⟨"java/lang/AbstractStringBuilder", "isLatin1", "()Z"⟩ : MethodName) jdk_68_method_68_code 1 (some .boolean) :: ws) ({ frames := 0, cells := 0, slots := 0, locals := 0 } : Room)) (fun a U => a = #[(.ref a0)] ∧ Z.Warmed39 U.vm ∧ U.heap = h0) (fun _ _ _ _ _ => True) (fun _ U o U' => ∃ v L, o = .returned v ∧ Q_ail Z a0 cs h0 n0 v U'.heap L ∧ FrameEnd U o U' L ({ frames := 0, cells := 0, slots := 0, locals := 0 } : Room).cells ({ frames := 0, cells := 0, slots := 0, locals := 0 } : Room).slots) := by
  refine MetFree.of_bodySF (plainFor_of_name pn_java_lang_AbstractStringBuilder) hisR ?_
  intro p e s m args below meth c s₁ Bd hml0 hP hK
  obtain ⟨rfl, hZ, hh⟩ := hP
  have hx := Bd.exec
  have hby := Bd.bytes
  have hml : c.maxLocals = 1 := hml0
  have hown : s.vm.findClass "java/lang/AbstractStringBuilder" = some m.cls := findClass_of_methodNamed Bd.named
  have hnm := (name_of_methodNamed Bd.named Bd.method).1
  have X0 : Stand p l e ({ frames := 0, cells := 0, slots := 0, locals := 0 } : Room) s m #[(.ref a0)] below meth c s₁ [] 0 0 := Stand.of_body Bd
  have e0 : s₁.heap = h0 := by rw [← hh, Bd.state]; rfl
  have N0 := Fr.nil n0
  have pre0 : ∀ tz_, Steps p.tables e below (s₁.setTop (mkF m 0 #[.val (.ref a0)] [])) tz_ → Steps p.tables e below (s₁.setTop (entryFrame m #[(.ref a0)] 1)) tz_ := fun tz_ kz_ => castTop (ef_ail m a0) kz_
  obtain ⟨T31, X31, e31, st31⟩ := getS2 X0 hx hZ hown (host := "") (Or.inl (hw _ (mg (i := 77) rfl))) Via.refl e0 (p1_S.ext p0_O.2) (g := (mkF m 0 #[.val (.ref a0)] [])) rfl (hb hby d28_0)
  obtain ⟨T32, X32, e32, st32⟩ := getF X31 hx hZ hown (host := "") (Or.inl (hw _ (mg (i := 80) rfl))) Via.refl e31 p3_F (g := (mkF m 7 #[.val (.ref a0)] [(.ref a0)])) rfl rfl (hb hby d28_7)
  obtain ⟨fs, hrL, hrun, hended, hW, hsame⟩ := X32.leave (v := some (.int 1)) (fun h => by rw [Bd.returns] at h; cases h)
  refine ⟨_, _, pre0 _ ?_, hrun, hended, _, _, rfl, ?_, ⟨_, rfl⟩, hW, hsame.mono (by decide) (by decide)⟩
  · show Steps p.tables e below (s₁.setTop (mkF m 0 #[.val (.ref a0)] [])) _
    refine st31 _ ?_
    show Steps p.tables e below (T31.setTop (mkF m 3 #[.val (.ref a0)] [(.int cs)])) _
    refine XS.ifNo X31.here hx rfl (hb hby d28_3) rfl ((if0 _ _).trans (feq hcs).1) ?_
    refine XS.aloadN X31.here hx rfl (hb hby d28_6) rfl rfl ?_
    show Steps p.tables e below (T31.setTop (mkF m 7 #[.val (.ref a0)] [(.ref a0)])) _
    refine st32 _ ?_
    show Steps p.tables e below (T32.setTop (mkF m 10 #[.val (.ref a0)] [(.int 0)])) _
    refine XS.ifNo X32.here hx rfl (hb hby d28_10) rfl ((if0 _ _).trans (teq (by decide : (0 : Int32) = (0 : Int32))).2) ?_
    refine XS.iconst X32.here hx rfl (hb hby d28_13) ?_
    refine XS.goto X32.here hx rfl (pc0 := 14) (pc' := 18) rfl (hb hby d28_14) (by decide) (by decide) ?_
    show Steps p.tables e below (T32.setTop (mkF m 18 #[.val (.ref a0)] [(.int 1)])) _
    exact retN X32 hx (t := .boolean) Bd.returns (by simp) (hb hby d28_18) hrL
  · show Q_ail _ _ _ _ _ _  T32.heap _
    rw [e32]
    exact ⟨rfl, N0, rfl⟩
theorem d32_0 : decode jdk_29_method_69_code 0 = .ok (.iload_n 0, 1) := by decide +kernel
theorem d32_1 : decode jdk_29_method_69_code 1 = .ok (.iload_n 1, 1) := by decide +kernel
theorem d32_2 : decode jdk_29_method_69_code 2 = .ok (.if_icmp .gt 7, 3) := by decide +kernel
theorem d32_9 : decode jdk_29_method_69_code 9 = .ok (.iload_n 1, 1) := by decide +kernel
theorem d32_10 : decode jdk_29_method_69_code 10 = .ok (.ireturn, 1) := by decide +kernel
theorem ef_mmin (m : MethodId) (i0 : Int32) (i1 : Int32) : entryFrame m #[(.int i0), (.int i1)] 2 = mkF m 0 #[.val (.int i0), .val (.int i1)] [] := by first | (simp [entryFrame, mkF, argsToLocals, Value.category]; done) | rfl
def Q_mmin (Z : State) (i0 : Int32) (i1 : Int32) (h0 : Heap) (n0 : Nat) (v : Option Value) (h : Heap) (L : List Loc) : Prop := v = some (.int i1) ∧ Fr n0 L ∧ h = h0
set_option maxRecDepth 65536 in
set_option maxHeartbeats 40000000 in
theorem mmin (l : Launch) (Z : State) (av0 : Array Value) (hw : ∀ d ∈ tables_1, d.before av0 Z = true) (ws : List Jvm.Cond) (i0 : Int32) (i1 : Int32) (h0 : Heap) (n0 : Nat) (Z0 : n0 ≤ h0.size) (hlt : i1 < i0) :
    MetFree l (⟨"java/lang/Math", "min", "(II)I"⟩ : MethodName) (head1 (Jvm.Cond.code (⟨"java/lang/Math", "min", "(II)I"⟩ : MethodName) jdk_29_method_69_code 2 (some .int) :: ws) ({ frames := 0, cells := 0, slots := 0, locals := 0 } : Room)) (fun a U => a = #[(.int i0), (.int i1)] ∧ Z.Warmed39 U.vm ∧ U.heap = h0) (fun _ _ _ _ _ => True) (fun _ U o U' => ∃ v L, o = .returned v ∧ Q_mmin Z i0 i1 h0 n0 v U'.heap L ∧ FrameEnd U o U' L ({ frames := 0, cells := 0, slots := 0, locals := 0 } : Room).cells ({ frames := 0, cells := 0, slots := 0, locals := 0 } : Room).slots) := by
  refine MetFree.of_bodySF (Jvm.Free.JP.mathPlain rfl (by decide +kernel)) hisR ?_
  intro p e s m args below meth c s₁ Bd hml0 hP hK
  obtain ⟨rfl, hZ, hh⟩ := hP
  have hx := Bd.exec
  have hby := Bd.bytes
  have hml : c.maxLocals = 2 := hml0
  have hown : s.vm.findClass "java/lang/Math" = some m.cls := findClass_of_methodNamed Bd.named
  have hnm := (name_of_methodNamed Bd.named Bd.method).1
  have X0 : Stand p l e ({ frames := 0, cells := 0, slots := 0, locals := 0 } : Room) s m #[(.int i0), (.int i1)] below meth c s₁ [] 0 0 := Stand.of_body Bd
  have e0 : s₁.heap = h0 := by rw [← hh, Bd.state]; rfl
  have N0 := Fr.nil n0
  have pre0 : ∀ tz_, Steps p.tables e below (s₁.setTop (mkF m 0 #[.val (.int i0), .val (.int i1)] [])) tz_ → Steps p.tables e below (s₁.setTop (entryFrame m #[(.int i0), (.int i1)] 2)) tz_ := fun tz_ kz_ => castTop (ef_mmin m i0 i1) kz_
  obtain ⟨fs, hrL, hrun, hended, hW, hsame⟩ := X0.leave (v := some (.int i1)) (fun h => by rw [Bd.returns] at h; cases h)
  refine ⟨_, _, pre0 _ ?_, hrun, hended, _, _, rfl, ?_, ⟨_, rfl⟩, hW, hsame.mono (by decide) (by decide)⟩
  · show Steps p.tables e below (s₁.setTop (mkF m 0 #[.val (.int i0), .val (.int i1)] [])) _
    refine XS.iloadN X0.here hx rfl (hb hby d32_0) rfl ?_
    refine XS.iloadN X0.here hx rfl (hb hby d32_1) rfl ?_
    show Steps p.tables e below (s₁.setTop (mkF m 2 #[.val (.int i0), .val (.int i1)] [(.int i1), (.int i0)])) _
    refine XS.icmpYes X0.here hx rfl (pc0 := 2) (pc' := 9) rfl (hb hby d32_2) rfl (tlt hlt).2.2.1 (by decide) (by decide) ?_
    show Steps p.tables e below (s₁.setTop (mkF m 9 #[.val (.int i0), .val (.int i1)] [])) _
    refine XS.iloadN X0.here hx rfl (hb hby d32_9) rfl ?_
    show Steps p.tables e below (s₁.setTop (mkF m 10 #[.val (.int i0), .val (.int i1)] [(.int i1)])) _
    exact retI X0 hx Bd.returns (hb hby d32_10) hrL
  · show Q_mmin _ _ _ _ _ _  s₁.heap _
    rw [e0]
    exact ⟨rfl, N0, rfl⟩
theorem Ln.lt16 {c : Int32} {bs : List Value} (h : Ln c bs 8) : c < (16 : Int32) := by
  have := h.toI
  rw [i32lt, show (16 : Int32).toInt = 16 from by decide]; omega
theorem Ln.ne16 {c : Int32} {bs : List Value} (h : Ln c bs 8) : ¬ (c = (16 : Int32)) := fun e => by
  have := h.lt16
  rw [e] at this; exact absurd this (by decide)
theorem d31_0 : decode jdk_65_method_131_code 0 = .ok (.iload_n 1, 1) := by decide +kernel
theorem d31_1 : decode jdk_65_method_131_code 1 = .ok (.iload_n 0, 1) := by decide +kernel
theorem d31_2 : decode jdk_65_method_131_code 2 = .ok (.if_icmp .ge 35, 3) := by decide +kernel
theorem d31_37 : decode jdk_65_method_131_code 37 = .ok (.return_, 1) := by decide +kernel
theorem pn_java_util_Arrays : plainName "java/util/Arrays" = true := by first | (simp [plainName, overriddenIn]; done) | decide +kernel
theorem ef_ckl (m : MethodId) (i1 : Int32) : entryFrame m #[(.int 0), (.int i1)] 2 = mkF m 0 #[.val (.int 0), .val (.int i1)] [] := by first | (simp [entryFrame, mkF, argsToLocals, Value.category]; done) | rfl
def Q_ckl (Z : State) (i1 : Int32) (h0 : Heap) (n0 : Nat) (v : Option Value) (h : Heap) (L : List Loc) : Prop := v = none ∧ Fr n0 L ∧ h = h0
set_option maxRecDepth 65536 in
set_option maxHeartbeats 40000000 in
theorem ckl (l : Launch) (Z : State) (av0 : Array Value) (hw : ∀ d ∈ tables_1, d.before av0 Z = true) (ws : List Jvm.Cond) (i1 : Int32) (h0 : Heap) (n0 : Nat) (Z0 : n0 ≤ h0.size) (hge : ¬ (i1 < (0 : Int32))) :
    MetFree l (⟨"java/util/Arrays", "checkLength", "(II)V"⟩ : MethodName) (head1 (Jvm.Cond.code (⟨"java/util/Arrays", "checkLength", "(II)V"⟩ : MethodName) jdk_65_method_131_code 2 none :: ws) ({ frames := 0, cells := 0, slots := 0, locals := 0 } : Room)) (fun a U => a = #[(.int 0), (.int i1)] ∧ Z.Warmed39 U.vm ∧ U.heap = h0) (fun _ _ _ _ _ => True) (fun _ U o U' => ∃ v L, o = .returned v ∧ Q_ckl Z i1 h0 n0 v U'.heap L ∧ FrameEnd U o U' L ({ frames := 0, cells := 0, slots := 0, locals := 0 } : Room).cells ({ frames := 0, cells := 0, slots := 0, locals := 0 } : Room).slots) := by
  refine MetFree.of_bodySF (plainFor_of_name pn_java_util_Arrays) hisR ?_
  intro p e s m args below meth c s₁ Bd hml0 hP hK
  obtain ⟨rfl, hZ, hh⟩ := hP
  have hx := Bd.exec
  have hby := Bd.bytes
  have hml : c.maxLocals = 2 := hml0
  have hown : s.vm.findClass "java/util/Arrays" = some m.cls := findClass_of_methodNamed Bd.named
  have hnm := (name_of_methodNamed Bd.named Bd.method).1
  have X0 : Stand p l e ({ frames := 0, cells := 0, slots := 0, locals := 0 } : Room) s m #[(.int 0), (.int i1)] below meth c s₁ [] 0 0 := Stand.of_body Bd
  have e0 : s₁.heap = h0 := by rw [← hh, Bd.state]; rfl
  have N0 := Fr.nil n0
  have pre0 : ∀ tz_, Steps p.tables e below (s₁.setTop (mkF m 0 #[.val (.int 0), .val (.int i1)] [])) tz_ → Steps p.tables e below (s₁.setTop (entryFrame m #[(.int 0), (.int i1)] 2)) tz_ := fun tz_ kz_ => castTop (ef_ckl m i1) kz_
  obtain ⟨fs, hrL, hrun, hended, hW, hsame⟩ := X0.leave (v := none) (fun _ => rfl)
  refine ⟨_, _, pre0 _ ?_, hrun, hended, _, _, rfl, ?_, ⟨_, rfl⟩, hW, hsame.mono (by decide) (by decide)⟩
  · show Steps p.tables e below (s₁.setTop (mkF m 0 #[.val (.int 0), .val (.int i1)] [])) _
    refine XS.iloadN X0.here hx rfl (hb hby d31_0) rfl ?_
    refine XS.iloadN X0.here hx rfl (hb hby d31_1) rfl ?_
    show Steps p.tables e below (s₁.setTop (mkF m 2 #[.val (.int 0), .val (.int i1)] [(.int 0), (.int i1)])) _
    refine XS.icmpYes X0.here hx rfl (pc0 := 2) (pc' := 37) rfl (hb hby d31_2) rfl (flt hge).2.1 (by decide) (by decide) ?_
    show Steps p.tables e below (s₁.setTop (mkF m 37 #[.val (.int 0), .val (.int i1)] [])) _
    exact X0.returnOut hx Bd.returns (hb hby d31_37) hrL
  · show Q_ckl _ _ _ _ _  s₁.heap _
    rw [e0]
    exact ⟨rfl, N0, rfl⟩
theorem d30_0 : decode jdk_65_method_133_code 0 = .ok (.iload_n 1, 1) := by decide +kernel
theorem d30_1 : decode jdk_65_method_133_code 1 = .ok (.iload_n 2, 1) := by decide +kernel
theorem d30_2 : decode jdk_65_method_133_code 2 = .ok (.invokestatic 343, 3) := by decide +kernel
theorem pd_24 : parseMethodDescriptor "(II)V" = some ⟨[.int, .int], none⟩ := by decide +kernel
theorem d30_5 : decode jdk_65_method_133_code 5 = .ok (.iload_n 2, 1) := by decide +kernel
theorem d30_6 : decode jdk_65_method_133_code 6 = .ok (.iload_n 1, 1) := by decide +kernel
theorem d30_7 : decode jdk_65_method_133_code 7 = .ok (.isub, 1) := by decide +kernel
theorem d30_8 : decode jdk_65_method_133_code 8 = .ok (.istore_n 3, 1) := by decide +kernel
theorem d30_9 : decode jdk_65_method_133_code 9 = .ok (.iload_n 3, 1) := by decide +kernel
theorem d30_10 : decode jdk_65_method_133_code 10 = .ok (.newarray .byte, 2) := by decide +kernel
theorem d30_12 : decode jdk_65_method_133_code 12 = .ok (.astore 4, 2) := by decide +kernel
theorem d30_14 : decode jdk_65_method_133_code 14 = .ok (.aload_n 0, 1) := by decide +kernel
theorem d30_15 : decode jdk_65_method_133_code 15 = .ok (.iload_n 1, 1) := by decide +kernel
theorem d30_16 : decode jdk_65_method_133_code 16 = .ok (.aload 4, 2) := by decide +kernel
theorem d30_18 : decode jdk_65_method_133_code 18 = .ok (.iconst 0, 1) := by decide +kernel
theorem d30_19 : decode jdk_65_method_133_code 19 = .ok (.aload_n 0, 1) := by decide +kernel
theorem d30_20 : decode jdk_65_method_133_code 20 = .ok (.arraylength, 1) := by decide +kernel
theorem d30_21 : decode jdk_65_method_133_code 21 = .ok (.iload_n 1, 1) := by decide +kernel
theorem d30_22 : decode jdk_65_method_133_code 22 = .ok (.isub, 1) := by decide +kernel
theorem d30_23 : decode jdk_65_method_133_code 23 = .ok (.iload_n 3, 1) := by decide +kernel
theorem d30_24 : decode jdk_65_method_133_code 24 = .ok (.invokestatic 304, 3) := by decide +kernel
theorem pd_25 : parseMethodDescriptor "(II)I" = some ⟨[.int, .int], some .int⟩ := by decide +kernel
theorem d30_27 : decode jdk_65_method_133_code 27 = .ok (.invokestatic 150, 3) := by decide +kernel
theorem d30_30 : decode jdk_65_method_133_code 30 = .ok (.aload 4, 2) := by decide +kernel
theorem d30_32 : decode jdk_65_method_133_code 32 = .ok (.areturn, 1) := by decide +kernel
theorem ef_crb (m : MethodId) (a0 : Addr) (cnt : Int32) : entryFrame m #[(.ref a0), (.int 0), (.int cnt)] 5 = mkF m 0 #[.val (.ref a0), .val (.int 0), .val (.int cnt), .unset, .unset] [] := by first | (simp [entryFrame, mkF, argsToLocals, Value.category]; done) | rfl
def Q_crb (Z : State) (a0 : Addr) (cnt : Int32) (kr : ClassId) (bs : List Value) (h0 : Heap) (n0 : Nat) (v : Option Value) (h : Heap) (L : List Loc) : Prop := ∃ b : Addr, ∃ kb : ClassId, v = some (.ref b) ∧ Fr n0 L ∧ Keep h0 h [] ∧ h0.size ≤ b ∧ Arv Z h b kb .byte cnt bs (.int 0)
set_option maxRecDepth 65536 in
set_option maxHeartbeats 40000000 in
theorem crb (l : Launch) (Z : State) (av0 : Array Value) (hw : ∀ d ∈ tables_1, d.before av0 Z = true) (ws : List Jvm.Cond) (a0 : Addr) (cnt : Int32) (kr : ClassId) (bs : List Value) (h0 : Heap) (n0 : Nat) (Z0 : n0 ≤ h0.size) (p0_A : Arv Z h0 a0 kr .byte (16 : Int32) (Pd bs) (.int 0)) (hbs : Ln cnt bs 8) :
    MetFree l (⟨"java/util/Arrays", "copyOfRangeByte", "([BII)[B"⟩ : MethodName) (head1 (Jvm.Cond.code (⟨"java/util/Arrays", "copyOfRangeByte", "([BII)[B"⟩ : MethodName) jdk_65_method_133_code 5 (some (.array .byte)) :: ws) ({ frames := 1, cells := 1, slots := 8, locals := 18 } : Room)) (fun a U => a = #[(.ref a0), (.int 0), (.int cnt)] ∧ Z.Warmed39 U.vm ∧ U.heap = h0) (fun _ _ _ _ _ => True) (fun _ U o U' => ∃ v L, o = .returned v ∧ Q_crb Z a0 cnt kr bs h0 n0 v U'.heap L ∧ FrameEnd U o U' L ({ frames := 1, cells := 1, slots := 8, locals := 18 } : Room).cells ({ frames := 1, cells := 1, slots := 8, locals := 18 } : Room).slots) := by
  refine MetFree.of_bodySF (plainFor_of_name pn_java_util_Arrays) hisR ?_
  intro p e s m args below meth c s₁ Bd hml0 hP hK
  obtain ⟨rfl, hZ, hh⟩ := hP
  have hx := Bd.exec
  have hby := Bd.bytes
  have hml : c.maxLocals = 5 := hml0
  have hown : s.vm.findClass "java/util/Arrays" = some m.cls := findClass_of_methodNamed Bd.named
  have hnm := (name_of_methodNamed Bd.named Bd.method).1
  have X0 : Stand p l e ({ frames := 1, cells := 1, slots := 8, locals := 18 } : Room) s m #[(.ref a0), (.int 0), (.int cnt)] below meth c s₁ [] 0 0 := Stand.of_body Bd
  have e0 : s₁.heap = h0 := by rw [← hh, Bd.state]; rfl
  have N0 := Fr.nil n0
  have pre0 : ∀ tz_, Steps p.tables e below (s₁.setTop (mkF m 0 #[.val (.ref a0), .val (.int 0), .val (.int cnt), .unset, .unset] [])) tz_ → Steps p.tables e below (s₁.setTop (entryFrame m #[(.ref a0), (.int 0), (.int cnt)] 5)) tz_ := fun tz_ kz_ => castTop (ef_crb m a0 cnt) kz_
  have K0 : Keep h0 h0 [] := Keep.refl h0 []
  -- pc 2: Arrays.checkLength
  obtain ⟨_, _, ⟨T31, L31, k31, n31⟩, -, X31, ⟨Lc31, hQ31, l31, y31, z31⟩, st31⟩ := Jvm.LawKit.callS X0 hx (y := (⟨"java/util/Arrays", "checkLength", "(II)V"⟩ : MethodName)) hown (mvT hZ (hw _ (mg (i := 167) rfl))) (mvT hZ (hw _ (mg (i := 168) rfl))) (mvT hZ (hw _ (mg (i := 162) rfl))) (mvT hZ (hw _ (mg (i := 169) rfl))) (by decide) (backOf (W := 0) (ckl l Z av0 hw [] cnt h0 n0 (Nat.le_trans Z0 K0.1) (hbs.1 : ¬ (cnt < (0 : Int32)))) hZ (hw _ (mg (i := 169) rfl)) (hw _ (mg (i := 162) rfl)) (by decide) (by decide)) (g := (mkF m 2 #[.val (.ref a0), .val (.int 0), .val (.int cnt), .unset, .unset] [(.int cnt), (.int 0)])) rfl (by rw [hml]; rfl) (argsL := [(.int 0), (.int cnt)]) (rest := []) (lenOf pd_24 rfl) rfl (by show 2 * 0 + _ ≤ _; exact Nat.le_of_eq rfl) (hb hby d30_2) (fun vmx hWx => ⟨rfl, e0, (by decide : 0 + 0 ≤ _), (by decide : 0 + 0 ≤ _)⟩)
  dsimp only [Pt.U, Pt.locs, Pt.cells, Pt.slots] at X31 l31 y31 z31 st31 hQ31
  subst l31 y31 z31
  obtain ⟨rv31, Nq31, Kq31⟩ := hQ31
  subst rv31
  have N31 := Fr.app N0 Nq31
  obtain ⟨T32, h32, k32, X32, e32, E32, A32, st32⟩ := newP X31 hx hZ (hw _ (mg (i := 18) rfl)) Kq31 (g := (mkF m 10 #[.val (.ref a0), .val (.int 0), .val (.int cnt), .val (.int cnt), .unset] [(.int cnt)])) rfl (hb hby d30_10) rfl hbs.1 (cap := 8) (by rw [hbs.2.1]; exact hbs.2.2) (by decide) (by decide) (by decide)
  obtain ⟨b32, q32⟩ : ∃ z, z = h0.size := ⟨_, rfl⟩
  rw [← q32] at A32 st32
  have g_b32 : n0 ≤ b32 := Nat.le_trans (Nat.le_trans Z0 K0.1) (Nat.le_of_eq q32.symm)
  have sz_b32 : h0.size ≤ b32 := Nat.le_trans K0.1 (Nat.le_of_eq q32.symm)
  have V32 : Arv Z h32 b32 k32 .byte cnt (List.replicate cnt.toNatClampNeg (.int 0)) (.int 0) := (Arv.new A32 hbs.1).pad (pad_rep [] (.int 0) cnt.toNatClampNeg)
  have K33 := K0.ext E32
  have f34 := (p0_A.ext E32)
  obtain ⟨cl35, Ar35, -, qs35, qn35, -, -⟩ := id f34
  -- pc 24: Math.min
  obtain ⟨_, _, ⟨T36, L36, k36, n36⟩, -, X36, ⟨Lc36, hQ36, l36, y36, z36⟩, st36⟩ := Jvm.LawKit.callS X32 hx (y := (⟨"java/lang/Math", "min", "(II)I"⟩ : MethodName)) hown (mvT hZ (hw _ (mg (i := 170) rfl))) (mvT hZ (hw _ (mg (i := 171) rfl))) (mvT hZ (hw _ (mg (i := 172) rfl))) (mvT hZ (hw _ (mg (i := 173) rfl))) (by decide) (backOf (W := 4) (mmin l Z av0 hw [] (16 : Int32) cnt h32 n0 (Nat.le_trans Z0 K33.1) (hbs.lt16 : cnt < (16 : Int32))) hZ (hw _ (mg (i := 173) rfl)) (hw _ (mg (i := 172) rfl)) (by decide) (by decide)) (g := (mkF m 24 #[.val (.ref a0), .val (.int 0), .val (.int cnt), .val (.int cnt), .val (.ref b32)] [(.int cnt), (.int 16), (.int 0), (.ref b32), (.int 0), (.ref a0)])) rfl (by rw [hml]; rfl) (argsL := [(.int 16), (.int cnt)]) (rest := [(.int 0), (.ref b32), (.int 0), (.ref a0)]) (lenOf pd_25 rfl) rfl (by show 2 * 0 + _ ≤ _; exact Nat.le_of_eq rfl) (hb hby d30_24) (fun vmx hWx => ⟨rfl, e32, (by decide : 1 + 0 ≤ _), (by decide : 8 + 0 ≤ _)⟩)
  dsimp only [Pt.U, Pt.locs, Pt.cells, Pt.slots] at X36 l36 y36 z36 st36 hQ36
  subst l36 y36 z36
  obtain ⟨rv36, Nq36, Kq36⟩ := hQ36
  subst rv36
  have N36 := Fr.app N31 Nq36
  obtain ⟨T37, h37, L37, X37, e37, N37, K37, V37, st37⟩ := cpA X36 hx hZ hown (hw _ (mg (i := 174) rfl)) (hw _ (mg (i := 128) rfl)) (hw _ (mg (i := 126) rfl)) (hw _ (mg (i := 127) rfl)) Kq36 f34 V32 (Or.inl ⟨rfl, rfl⟩) (by decide) (by decide) hbs.1 (by rw [(show (0 : Int32).toNatClampNeg = 0 from by decide), (show (16 : Int32).toNatClampNeg = 16 from by decide), hbs.2.1]; have := hbs.2.2; omega) (by rw [(show (0 : Int32).toNatClampNeg = 0 from by decide)]; omega) (us := bs) (own_us2 hbs.2.1) (by rw [(show (0 : Int32).toNatClampNeg = 0 from by decide), List.length_replicate]; omega) N36 g_b32 (g := (mkF m 27 #[.val (.ref a0), .val (.int 0), .val (.int cnt), .val (.int cnt), .val (.ref b32)] [(.int cnt), (.int 0), (.ref b32), (.int 0), (.ref a0)])) rfl (by rw [hml]; rfl) rfl (hb hby d30_27) (by decide) (W := 0) (by show 2 * 0 + _ ≤ _; exact Nat.le_of_eq rfl) (by decide)
  rw [own_rep hbs.2.1] at V37
  have K38 := K33.trans K37 (allS (Or.inr sz_b32) all0)
  obtain ⟨fs, hrL, hrun, hended, hW, hsame⟩ := X37.leave (v := some (.ref b32)) (fun h => by rw [Bd.returns] at h; cases h)
  refine ⟨_, _, pre0 _ ?_, hrun, hended, _, _, rfl, ?_, ⟨_, rfl⟩, hW, hsame.mono (by decide) (by decide)⟩
  · show Steps p.tables e below (s₁.setTop (mkF m 0 #[.val (.ref a0), .val (.int 0), .val (.int cnt), .unset, .unset] [])) _
    refine XS.iloadN X0.here hx rfl (hb hby d30_0) rfl ?_
    refine XS.iloadN X0.here hx rfl (hb hby d30_1) rfl ?_
    show Steps p.tables e below (s₁.setTop (mkF m 2 #[.val (.ref a0), .val (.int 0), .val (.int cnt), .unset, .unset] [(.int cnt), (.int 0)])) _
    refine st31 _ ?_
    show Steps p.tables e below (T31.setTop (mkF m 5 #[.val (.ref a0), .val (.int 0), .val (.int cnt), .unset, .unset] [])) _
    refine XS.iloadN X31.here hx rfl (hb hby d30_5) rfl ?_
    refine XS.iloadN X31.here hx rfl (hb hby d30_6) rfl ?_
    show Steps p.tables e below (T31.setTop (mkF m 7 #[.val (.ref a0), .val (.int 0), .val (.int cnt), .unset, .unset] [(.int 0), (.int cnt)])) _
    refine XS.isub X31.here hx rfl (hb hby d30_7) rfl ?_
    show Steps p.tables e below (T31.setTop (mkF m 8 #[.val (.ref a0), .val (.int 0), .val (.int cnt), .unset, .unset] [(.int (cnt - (0 : Int32)))])) _
    rw [own_sub0]
    refine XS.istoreN X31.here hx rfl (hb hby d30_8) rfl (l' := #[.val (.ref a0), .val (.int 0), .val (.int cnt), .val (.int cnt), .unset]) rfl ?_
    show Steps p.tables e below (T31.setTop (mkF m 9 #[.val (.ref a0), .val (.int 0), .val (.int cnt), .val (.int cnt), .unset] [])) _
    refine XS.iloadN X31.here hx rfl (hb hby d30_9) rfl ?_
    show Steps p.tables e below (T31.setTop (mkF m 10 #[.val (.ref a0), .val (.int 0), .val (.int cnt), .val (.int cnt), .unset] [(.int cnt)])) _
    refine st32 _ ?_
    refine XS.astore X32.here hx rfl (hb hby d30_12) rfl rfl (l' := #[.val (.ref a0), .val (.int 0), .val (.int cnt), .val (.int cnt), .val (.ref b32)]) rfl ?_
    refine XS.aloadN X32.here hx rfl (hb hby d30_14) rfl rfl ?_
    show Steps p.tables e below (T32.setTop (mkF m 15 #[.val (.ref a0), .val (.int 0), .val (.int cnt), .val (.int cnt), .val (.ref b32)] [(.ref a0)])) _
    refine XS.iloadN X32.here hx rfl (hb hby d30_15) rfl ?_
    refine XS.aload X32.here hx rfl (hb hby d30_16) rfl rfl ?_
    refine XS.iconst X32.here hx rfl (hb hby d30_18) ?_
    refine XS.aloadN X32.here hx rfl (hb hby d30_19) rfl rfl ?_
    show Steps p.tables e below (T32.setTop (mkF m 20 #[.val (.ref a0), .val (.int 0), .val (.int cnt), .val (.int cnt), .val (.ref b32)] [(.ref a0), (.int 0), (.ref b32), (.int 0), (.ref a0)])) _
    refine X32.arraylength hx (by rw [e32]; exact Ar35.1) (State.isArrayOf_alike hZ.alike Ar35.2.1) (g := (mkF m 20 #[.val (.ref a0), .val (.int 0), .val (.int cnt), .val (.int cnt), .val (.ref b32)] [(.ref a0), (.int 0), (.ref b32), (.int 0), (.ref a0)])) rfl rfl (hb hby d30_20) _ ?_
    rw [len_of qs35 qn35]
    refine XS.iloadN X32.here hx rfl (hb hby d30_21) rfl ?_
    show Steps p.tables e below (T32.setTop (mkF m 22 #[.val (.ref a0), .val (.int 0), .val (.int cnt), .val (.int cnt), .val (.ref b32)] [(.int 0), (.int 16), (.int 0), (.ref b32), (.int 0), (.ref a0)])) _
    refine XS.isub X32.here hx rfl (hb hby d30_22) rfl ?_
    show Steps p.tables e below (T32.setTop (mkF m 23 #[.val (.ref a0), .val (.int 0), .val (.int cnt), .val (.int cnt), .val (.ref b32)] [(.int ((16 : Int32) - (0 : Int32))), (.int 0), (.ref b32), (.int 0), (.ref a0)])) _
    rw [show ((16 : Int32) - (0 : Int32)) = (16 : Int32) from by decide]
    refine XS.iloadN X32.here hx rfl (hb hby d30_23) rfl ?_
    show Steps p.tables e below (T32.setTop (mkF m 24 #[.val (.ref a0), .val (.int 0), .val (.int cnt), .val (.int cnt), .val (.ref b32)] [(.int cnt), (.int 16), (.int 0), (.ref b32), (.int 0), (.ref a0)])) _
    refine st36 _ ?_
    show Steps p.tables e below (T36.setTop (mkF m 27 #[.val (.ref a0), .val (.int 0), .val (.int cnt), .val (.int cnt), .val (.ref b32)] [(.int cnt), (.int 0), (.ref b32), (.int 0), (.ref a0)])) _
    refine st37 _ ?_
    refine XS.aload X37.here hx rfl (hb hby d30_30) rfl rfl ?_
    show Steps p.tables e below (T37.setTop (mkF m 32 #[.val (.ref a0), .val (.int 0), .val (.int cnt), .val (.int cnt), .val (.ref b32)] [(.ref b32)])) _
    exact retOut X37 hx Bd.returns rfl (Or.inr (Or.inr (Or.inr (Or.inr ⟨rfl, rfl, rfl⟩)))) (hb hby d30_32) hrL
  · show Q_crb _ _ _ _ _ _ _ _  T37.heap _
    rw [e37]
    exact ⟨b32, k32, rfl, N37, K38, sz_b32, V37⟩
theorem d29_0 : decode jdk_65_method_132_code 0 = .ok (.iload_n 1, 1) := by decide +kernel
theorem d29_1 : decode jdk_65_method_132_code 1 = .ok (.ifCond .ne 9, 3) := by decide +kernel
theorem d29_4 : decode jdk_65_method_132_code 4 = .ok (.iload_n 2, 1) := by decide +kernel
theorem d29_5 : decode jdk_65_method_132_code 5 = .ok (.aload_n 0, 1) := by decide +kernel
theorem d29_6 : decode jdk_65_method_132_code 6 = .ok (.arraylength, 1) := by decide +kernel
theorem d29_7 : decode jdk_65_method_132_code 7 = .ok (.if_icmp .eq 10, 3) := by decide +kernel
theorem d29_10 : decode jdk_65_method_132_code 10 = .ok (.aload_n 0, 1) := by decide +kernel
theorem d29_11 : decode jdk_65_method_132_code 11 = .ok (.iload_n 1, 1) := by decide +kernel
theorem d29_12 : decode jdk_65_method_132_code 12 = .ok (.iload_n 2, 1) := by decide +kernel
theorem d29_13 : decode jdk_65_method_132_code 13 = .ok (.invokestatic 339, 3) := by decide +kernel
theorem pd_23 : parseMethodDescriptor "([BII)[B" = some ⟨[(.array .byte), .int, .int], some (.array .byte)⟩ := by decide +kernel
theorem d29_16 : decode jdk_65_method_132_code 16 = .ok (.areturn, 1) := by decide +kernel
theorem ef_cor (m : MethodId) (a0 : Addr) (cnt : Int32) : entryFrame m #[(.ref a0), (.int 0), (.int cnt)] 3 = mkF m 0 #[.val (.ref a0), .val (.int 0), .val (.int cnt)] [] := by first | (simp [entryFrame, mkF, argsToLocals, Value.category]; done) | rfl
def Q_cor (Z : State) (a0 : Addr) (cnt : Int32) (kr : ClassId) (bs : List Value) (h0 : Heap) (n0 : Nat) (v : Option Value) (h : Heap) (L : List Loc) : Prop := ∃ b : Addr, ∃ kb : ClassId, v = some (.ref b) ∧ Fr n0 L ∧ Keep h0 h [] ∧ h0.size ≤ b ∧ Arv Z h b kb .byte cnt bs (.int 0)
set_option maxRecDepth 65536 in
set_option maxHeartbeats 40000000 in
theorem cor (l : Launch) (Z : State) (av0 : Array Value) (hw : ∀ d ∈ tables_1, d.before av0 Z = true) (ws : List Jvm.Cond) (a0 : Addr) (cnt : Int32) (kr : ClassId) (bs : List Value) (h0 : Heap) (n0 : Nat) (Z0 : n0 ≤ h0.size) (p0_A : Arv Z h0 a0 kr .byte (16 : Int32) (Pd bs) (.int 0)) (hbs : Ln cnt bs 8) :
    MetFree l (⟨"java/util/Arrays", "copyOfRange", "([BII)[B"⟩ : MethodName) (head1 (Jvm.Cond.code (⟨"java/util/Arrays", "copyOfRange", "([BII)[B"⟩ : MethodName) jdk_65_method_132_code 3 (some (.array .byte)) :: ws) ({ frames := 2, cells := 1, slots := 8, locals := 34 } : Room)) (fun a U => a = #[(.ref a0), (.int 0), (.int cnt)] ∧ Z.Warmed39 U.vm ∧ U.heap = h0) (fun _ _ _ _ _ => True) (fun _ U o U' => ∃ v L, o = .returned v ∧ Q_cor Z a0 cnt kr bs h0 n0 v U'.heap L ∧ FrameEnd U o U' L ({ frames := 2, cells := 1, slots := 8, locals := 34 } : Room).cells ({ frames := 2, cells := 1, slots := 8, locals := 34 } : Room).slots) := by
  refine MetFree.of_bodySF (plainFor_of_name pn_java_util_Arrays) hisR ?_
  intro p e s m args below meth c s₁ Bd hml0 hP hK
  obtain ⟨rfl, hZ, hh⟩ := hP
  have hx := Bd.exec
  have hby := Bd.bytes
  have hml : c.maxLocals = 3 := hml0
  have hown : s.vm.findClass "java/util/Arrays" = some m.cls := findClass_of_methodNamed Bd.named
  have hnm := (name_of_methodNamed Bd.named Bd.method).1
  have X0 : Stand p l e ({ frames := 2, cells := 1, slots := 8, locals := 34 } : Room) s m #[(.ref a0), (.int 0), (.int cnt)] below meth c s₁ [] 0 0 := Stand.of_body Bd
  have e0 : s₁.heap = h0 := by rw [← hh, Bd.state]; rfl
  have N0 := Fr.nil n0
  have pre0 : ∀ tz_, Steps p.tables e below (s₁.setTop (mkF m 0 #[.val (.ref a0), .val (.int 0), .val (.int cnt)] [])) tz_ → Steps p.tables e below (s₁.setTop (entryFrame m #[(.ref a0), (.int 0), (.int cnt)] 3)) tz_ := fun tz_ kz_ => castTop (ef_cor m a0 cnt) kz_
  have K0 : Keep h0 h0 [] := Keep.refl h0 []
  obtain ⟨cl31, Ar31, -, qs31, qn31, -, -⟩ := id p0_A
  -- pc 13: Arrays.copyOfRangeByte
  obtain ⟨_, _, ⟨T32, L32, k32, n32⟩, -, X32, ⟨Lc32, hQ32, l32, y32, z32⟩, st32⟩ := Jvm.LawKit.callS X0 hx (y := (⟨"java/util/Arrays", "copyOfRangeByte", "([BII)[B"⟩ : MethodName)) hown (mvT hZ (hw _ (mg (i := 164) rfl))) (mvT hZ (hw _ (mg (i := 165) rfl))) (mvT hZ (hw _ (mg (i := 162) rfl))) (mvT hZ (hw _ (mg (i := 166) rfl))) (by decide) (backOf (W := 0) (crb l Z av0 hw [] a0 cnt kr bs h0 n0 (Nat.le_trans Z0 K0.1) p0_A (hbs : Ln cnt bs 8)) hZ (hw _ (mg (i := 166) rfl)) (hw _ (mg (i := 162) rfl)) (by decide) (by decide)) (g := (mkF m 13 #[.val (.ref a0), .val (.int 0), .val (.int cnt)] [(.int cnt), (.int 0), (.ref a0)])) rfl (by rw [hml]; rfl) (argsL := [(.ref a0), (.int 0), (.int cnt)]) (rest := []) (lenOf pd_23 rfl) rfl (by show 2 * 0 + _ ≤ _; exact Nat.le_of_eq rfl) (hb hby d29_13) (fun vmx hWx => ⟨rfl, e0, (by decide : 0 + 1 ≤ _), (by decide : 0 + 8 ≤ _)⟩)
  dsimp only [Pt.U, Pt.locs, Pt.cells, Pt.slots] at X32 l32 y32 z32 st32 hQ32
  subst l32 y32 z32
  obtain ⟨b_32, kb_32, rv32, Nq32, Kq32, u32_0, u32_1⟩ := hQ32
  subst rv32
  have N32 := Fr.app N0 Nq32
  have g_b_32 : n0 ≤ b_32 := Nat.le_trans (Nat.le_trans Z0 K0.1) u32_0
  have sz_b_32 : h0.size ≤ b_32 := Nat.le_trans K0.1 u32_0
  have K33 := K0.trans Kq32 all0
  obtain ⟨fs, hrL, hrun, hended, hW, hsame⟩ := X32.leave (v := some (.ref b_32)) (fun h => by rw [Bd.returns] at h; cases h)
  refine ⟨_, _, pre0 _ ?_, hrun, hended, _, _, rfl, ?_, ⟨_, rfl⟩, hW, hsame.mono (by decide) (by decide)⟩
  · show Steps p.tables e below (s₁.setTop (mkF m 0 #[.val (.ref a0), .val (.int 0), .val (.int cnt)] [])) _
    refine XS.iloadN X0.here hx rfl (hb hby d29_0) rfl ?_
    show Steps p.tables e below (s₁.setTop (mkF m 1 #[.val (.ref a0), .val (.int 0), .val (.int cnt)] [(.int 0)])) _
    refine XS.ifNo X0.here hx rfl (hb hby d29_1) rfl ((if0 _ _).trans (teq (by decide : (0 : Int32) = (0 : Int32))).2) ?_
    refine XS.iloadN X0.here hx rfl (hb hby d29_4) rfl ?_
    show Steps p.tables e below (s₁.setTop (mkF m 5 #[.val (.ref a0), .val (.int 0), .val (.int cnt)] [(.int cnt)])) _
    refine XS.aloadN X0.here hx rfl (hb hby d29_5) rfl rfl ?_
    show Steps p.tables e below (s₁.setTop (mkF m 6 #[.val (.ref a0), .val (.int 0), .val (.int cnt)] [(.ref a0), (.int cnt)])) _
    refine X0.arraylength hx (by rw [e0]; exact Ar31.1) (State.isArrayOf_alike hZ.alike Ar31.2.1) (g := (mkF m 6 #[.val (.ref a0), .val (.int 0), .val (.int cnt)] [(.ref a0), (.int cnt)])) rfl rfl (hb hby d29_6) _ ?_
    rw [len_of qs31 qn31]
    show Steps p.tables e below (s₁.setTop (mkF m 7 #[.val (.ref a0), .val (.int 0), .val (.int cnt)] [(.int 16), (.int cnt)])) _
    refine XS.icmpNo X0.here hx rfl (hb hby d29_7) rfl (feq (hbs.ne16 : ¬ (cnt = (16 : Int32)))).1 ?_
    refine XS.aloadN X0.here hx rfl (hb hby d29_10) rfl rfl ?_
    show Steps p.tables e below (s₁.setTop (mkF m 11 #[.val (.ref a0), .val (.int 0), .val (.int cnt)] [(.ref a0)])) _
    refine XS.iloadN X0.here hx rfl (hb hby d29_11) rfl ?_
    refine XS.iloadN X0.here hx rfl (hb hby d29_12) rfl ?_
    show Steps p.tables e below (s₁.setTop (mkF m 13 #[.val (.ref a0), .val (.int 0), .val (.int cnt)] [(.int cnt), (.int 0), (.ref a0)])) _
    refine st32 _ ?_
    show Steps p.tables e below (T32.setTop (mkF m 16 #[.val (.ref a0), .val (.int 0), .val (.int cnt)] [(.ref b_32)])) _
    exact retOut X32 hx Bd.returns rfl (Or.inr (Or.inr (Or.inr (Or.inr ⟨rfl, rfl, rfl⟩)))) (hb hby d29_16) hrL
  · show Q_cor _ _ _ _ _ _ _ _  T32.heap _
    exact ⟨b_32, kb_32, rfl, N32, K33, sz_b_32, u32_1⟩
theorem d24_0 : decode jdk_42_method_150_code 0 = .ok (.aload_n 0, 1) := by decide +kernel
theorem d24_1 : decode jdk_42_method_150_code 1 = .ok (.invokespecial 1, 3) := by decide +kernel
theorem d24_4 : decode jdk_42_method_150_code 4 = .ok (.aload_n 1, 1) := by decide +kernel
theorem d24_5 : decode jdk_42_method_150_code 5 = .ok (.invokevirtual 552, 3) := by decide +kernel
theorem pd_21 : parseMethodDescriptor "()[B" = some ⟨[], some (.array .byte)⟩ := by decide +kernel
theorem d24_8 : decode jdk_42_method_150_code 8 = .ok (.astore_n 3, 1) := by decide +kernel
theorem d24_9 : decode jdk_42_method_150_code 9 = .ok (.aload_n 1, 1) := by decide +kernel
theorem d24_10 : decode jdk_42_method_150_code 10 = .ok (.invokevirtual 549, 3) := by decide +kernel
theorem d24_13 : decode jdk_42_method_150_code 13 = .ok (.istore 4, 2) := by decide +kernel
theorem d24_15 : decode jdk_42_method_150_code 15 = .ok (.aload_n 1, 1) := by decide +kernel
theorem d24_16 : decode jdk_42_method_150_code 16 = .ok (.invokevirtual 1047, 3) := by decide +kernel
theorem pd_22 : parseMethodDescriptor "()Z" = some ⟨[], some .boolean⟩ := by decide +kernel
theorem d24_19 : decode jdk_42_method_150_code 19 = .ok (.ifCond .eq 22, 3) := by decide +kernel
theorem d24_22 : decode jdk_42_method_150_code 22 = .ok (.aload_n 0, 1) := by decide +kernel
theorem d24_23 : decode jdk_42_method_150_code 23 = .ok (.iconst 0, 1) := by decide +kernel
theorem d24_24 : decode jdk_42_method_150_code 24 = .ok (.putfield 15, 3) := by decide +kernel
theorem d24_27 : decode jdk_42_method_150_code 27 = .ok (.aload_n 0, 1) := by decide +kernel
theorem d24_28 : decode jdk_42_method_150_code 28 = .ok (.aload_n 3, 1) := by decide +kernel
theorem d24_29 : decode jdk_42_method_150_code 29 = .ok (.iconst 0, 1) := by decide +kernel
theorem d24_30 : decode jdk_42_method_150_code 30 = .ok (.iload 4, 2) := by decide +kernel
theorem d24_32 : decode jdk_42_method_150_code 32 = .ok (.invokestatic 54, 3) := by decide +kernel
theorem d24_35 : decode jdk_42_method_150_code 35 = .ok (.putfield 9, 3) := by decide +kernel
theorem d24_38 : decode jdk_42_method_150_code 38 = .ok (.goto 59, 3) := by decide +kernel
theorem d24_97 : decode jdk_42_method_150_code 97 = .ok (.return_, 1) := by decide +kernel
theorem ef_siv (m : MethodId) (a0 : Addr) (a1 : Addr) : entryFrame m #[(.ref a0), (.ref a1), .null] 5 = mkF m 0 #[.val (.ref a0), .val (.ref a1), .val .null, .unset, .unset] [] := by first | (simp [entryFrame, mkF, argsToLocals, Value.category]; done) | rfl
def Q_siv (Z : State) (a0 : Addr) (a1 : Addr) (arr : Addr) (kr : ClassId) (cnt : Int32) (bs : List Value) (cs : Int32) (h0 : Heap) (n0 : Nat) (v : Option Value) (h : Heap) (L : List Loc) : Prop := ∃ b : Addr, ∃ kb : ClassId, v = none ∧ Fr n0 L ∧ Keep h0 h [a0] ∧ Exa Z h a0 "java/lang/String" ∧ Fld Z h a0 "java/lang/String" "coder" "B" (.int 0) ∧ Fld Z h a0 "java/lang/String" "value" "[B" (.ref b) ∧ h0.size ≤ b ∧ Arv Z h b kb .byte cnt bs (.int 0)
set_option maxRecDepth 65536 in
set_option maxHeartbeats 40000000 in
theorem siv (l : Launch) (Z : State) (av0 : Array Value) (hw : ∀ d ∈ tables_1, d.before av0 Z = true) (ws : List Jvm.Cond) (a0 : Addr) (a1 : Addr) (arr : Addr) (kr : ClassId) (cnt : Int32) (bs : List Value) (cs : Int32) (h0 : Heap) (n0 : Nat) (Z0 : n0 ≤ h0.size) (p0_O : Old Z n0 h0) (p1_S : Sta Z Z.heap "java/lang/String" "COMPACT_STRINGS" "Z" (.int cs)) (hcs : ¬ (cs = (0 : Int32))) (p3_E : Exa Z h0 a0 "java/lang/String") (p4_F : Fld Z h0 a0 "java/lang/String" "value" "[B" .null) (p5_F : Fld Z h0 a0 "java/lang/String" "coder" "B" (.int 0)) (p6_g : n0 ≤ a0) (p7_E : Exa Z h0 a1 "java/lang/StringBuilder") (p8_F : Fld Z h0 a1 "java/lang/AbstractStringBuilder" "value" "[B" (.ref arr)) (p9_F : Fld Z h0 a1 "java/lang/AbstractStringBuilder" "coder" "B" (.int 0)) (p10_F : Fld Z h0 a1 "java/lang/AbstractStringBuilder" "count" "I" (.int cnt)) (p11_A : Arv Z h0 arr kr .byte (16 : Int32) (Pd bs) (.int 0)) (hbs : Ln cnt bs 8) :
    MetFree l (⟨"java/lang/String", "<init>", "(Ljava/lang/AbstractStringBuilder;Ljava/lang/Void;)V"⟩ : MethodName) (head1 (Jvm.Cond.code (⟨"java/lang/String", "<init>", "(Ljava/lang/AbstractStringBuilder;Ljava/lang/Void;)V"⟩ : MethodName) jdk_42_method_150_code 5 none :: ws) ({ frames := 3, cells := 1, slots := 8, locals := 49 } : Room)) (fun a U => a = #[(.ref a0), (.ref a1), .null] ∧ Z.Warmed39 U.vm ∧ U.heap = h0) (fun _ _ _ _ _ => True) (fun _ U o U' => ∃ v L, o = .returned v ∧ Q_siv Z a0 a1 arr kr cnt bs cs h0 n0 v U'.heap L ∧ FrameEnd U o U' L ({ frames := 3, cells := 1, slots := 8, locals := 49 } : Room).cells ({ frames := 3, cells := 1, slots := 8, locals := 49 } : Room).slots) := by
  refine MetFree.of_bodySF (plainFor_of_name pn_java_lang_String) hisR ?_
  intro p e s m args below meth c s₁ Bd hml0 hP hK
  obtain ⟨rfl, hZ, hh⟩ := hP
  have hx := Bd.exec
  have hby := Bd.bytes
  have hml : c.maxLocals = 5 := hml0
  have hown : s.vm.findClass "java/lang/String" = some m.cls := findClass_of_methodNamed Bd.named
  have hnm := (name_of_methodNamed Bd.named Bd.method).1
  have X0 : Stand p l e ({ frames := 3, cells := 1, slots := 8, locals := 49 } : Room) s m #[(.ref a0), (.ref a1), .null] below meth c s₁ [] 0 0 := Stand.of_body Bd
  have e0 : s₁.heap = h0 := by rw [← hh, Bd.state]; rfl
  have N0 := Fr.nil n0
  have pre0 : ∀ tz_, Steps p.tables e below (s₁.setTop (mkF m 0 #[.val (.ref a0), .val (.ref a1), .val .null, .unset, .unset] [])) tz_ → Steps p.tables e below (s₁.setTop (entryFrame m #[(.ref a0), (.ref a1), .null] 5)) tz_ := fun tz_ kz_ => castTop (ef_siv m a0 a1) kz_
  have K0 : Keep h0 h0 [a0] := Keep.refl h0 [a0]
  obtain ⟨T31, X31, e31, st31⟩ := initO X0 hx hZ hown (hw _ (mg (i := 23) rfl)) (hw _ (mg (i := 24) rfl)) (hw _ (mg (i := 25) rfl)) e0 (g := (mkF m 1 #[.val (.ref a0), .val (.ref a1), .val .null, .unset, .unset] [(.ref a0)])) rfl (by rw [hml]; rfl) rfl (hb hby d24_1) (by decide) (W := 0) (by show 2 * 0 + _ ≤ _; exact Nat.le_of_eq rfl) (by decide)
  -- pc 5: AbstractStringBuilder.getValue
  obtain ⟨cq32, kq32, q32a, q32b, q32c⟩ := isOf hZ e31 p7_E
  obtain ⟨_, _, ⟨T32, L32, k32, n32⟩, -, X32, ⟨Lc32, hQ32, l32, y32, z32⟩, st32⟩ := X31.virtualBack hx (y := (⟨"java/lang/AbstractStringBuilder", "getValue", "()[B"⟩ : MethodName)) (z := (⟨"java/lang/AbstractStringBuilder", "getValue", "()[B"⟩ : MethodName)) hown (mvT hZ (hw _ (mg (i := 142) rfl))) (mvT hZ (hw _ (mg (i := 143) rfl))) (notFace_of_selects (args := #[]) (mvT hZ (hw _ (mg (i := 145) rfl)))) (mvT hZ (hw _ (mg (i := 145) rfl))) (mvT hZ (hw _ (mg (i := 144) rfl))) (by decide) (backOf (W := 0) (gv l Z av0 hw [] a1 arr h0 n0 (own_le p0_O) p8_F) hZ (hw _ (mg (i := 146) rfl)) (hw _ (mg (i := 74) rfl)) (by decide) (by decide)) q32a q32c (g := (mkF m 5 #[.val (.ref a0), .val (.ref a1), .val .null, .unset, .unset] [(.ref a1)])) rfl (by rw [hml]; rfl) (Steps.refl _) (argsL := []) (rest := []) (lenOf pd_21 rfl) rfl (by show 2 * 0 + _ ≤ _; exact Nat.le_of_eq rfl) (hb hby d24_5) (fun vmx hWx => ⟨rfl, e31, (by decide : 0 + 0 ≤ _), (by decide : 0 + 0 ≤ _)⟩)
  dsimp only [Pt.U, Pt.locs, Pt.cells, Pt.slots] at X32 l32 y32 z32 st32 hQ32
  subst l32 y32 z32
  obtain ⟨rv32, Nq32, Kq32⟩ := hQ32
  subst rv32
  have N32 := Fr.app N0 Nq32
  -- pc 10: AbstractStringBuilder.length
  obtain ⟨cq33, kq33, q33a, q33b, q33c⟩ := isOf hZ Kq32 p7_E
  obtain ⟨_, _, ⟨T33, L33, k33, n33⟩, -, X33, ⟨Lc33, hQ33, l33, y33, z33⟩, st33⟩ := X32.virtualBack hx (y := (⟨"java/lang/AbstractStringBuilder", "length", "()I"⟩ : MethodName)) (z := (⟨"java/lang/StringBuilder", "length", "()I"⟩ : MethodName)) hown (mvT hZ (hw _ (mg (i := 147) rfl))) (mvT hZ (hw _ (mg (i := 148) rfl))) (own_nf (args := #[]) (mvT hZ (hw _ (mg (i := 107) rfl))) rfl) (mvT hZ (hw _ (mg (i := 150) rfl))) (mvT hZ (hw _ (mg (i := 151) rfl))) (by decide) (backOf (W := 0) (sl l Z av0 hw [] a1 cnt h0 n0 (own_le p0_O) p7_E p10_F) hZ (hw _ (mg (i := 152) rfl)) (hw _ (mg (i := 66) rfl)) (by decide) (by decide)) q33a q33c (g := (mkF m 10 #[.val (.ref a0), .val (.ref a1), .val .null, .val (.ref arr), .unset] [(.ref a1)])) rfl (by rw [hml]; rfl) (Steps.refl _) (argsL := []) (rest := []) (lenOf pd_13 rfl) rfl (by show 2 * 0 + _ ≤ _; exact Nat.le_of_eq rfl) (hb hby d24_10) (fun vmx hWx => ⟨rfl, Kq32, (by decide : 0 + 0 ≤ _), (by decide : 0 + 0 ≤ _)⟩)
  dsimp only [Pt.U, Pt.locs, Pt.cells, Pt.slots] at X33 l33 y33 z33 st33 hQ33
  subst l33 y33 z33
  obtain ⟨rv33, Nq33, Kq33⟩ := hQ33
  subst rv33
  have N33 := Fr.app N32 Nq33
  -- pc 16: AbstractStringBuilder.isLatin1
  obtain ⟨cq34, kq34, q34a, q34b, q34c⟩ := isOf hZ Kq33 p7_E
  obtain ⟨_, _, ⟨T34, L34, k34, n34⟩, -, X34, ⟨Lc34, hQ34, l34, y34, z34⟩, st34⟩ := X33.virtualBack hx (y := (⟨"java/lang/AbstractStringBuilder", "isLatin1", "()Z"⟩ : MethodName)) (z := (⟨"java/lang/AbstractStringBuilder", "isLatin1", "()Z"⟩ : MethodName)) hown (mvT hZ (hw _ (mg (i := 155) rfl))) (mvT hZ (hw _ (mg (i := 156) rfl))) (notFace_of_selects (args := #[]) (mvT hZ (hw _ (mg (i := 158) rfl)))) (mvT hZ (hw _ (mg (i := 158) rfl))) (mvT hZ (hw _ (mg (i := 157) rfl))) (by decide) (backOf (W := 0) (ail l Z av0 hw [] a1 cs h0 n0 (own_le p0_O) p0_O p1_S (hcs : ¬ (cs = (0 : Int32))) p9_F) hZ (hw _ (mg (i := 159) rfl)) (hw _ (mg (i := 74) rfl)) (by decide) (by decide)) q34a q34c (g := (mkF m 16 #[.val (.ref a0), .val (.ref a1), .val .null, .val (.ref arr), .val (.int cnt)] [(.ref a1)])) rfl (by rw [hml]; rfl) (Steps.refl _) (argsL := []) (rest := []) (lenOf pd_22 rfl) rfl (by show 2 * 0 + _ ≤ _; exact Nat.le_of_eq rfl) (hb hby d24_16) (fun vmx hWx => ⟨rfl, Kq33, (by decide : 0 + 0 ≤ _), (by decide : 0 + 0 ≤ _)⟩)
  dsimp only [Pt.U, Pt.locs, Pt.cells, Pt.slots] at X34 l34 y34 z34 st34 hQ34
  subst l34 y34 z34
  obtain ⟨rv34, Nq34, Kq34⟩ := hQ34
  subst rv34
  have N34 := Fr.app N33 Nq34
  obtain ⟨T35, h35, X35, e35, W35, st35⟩ := putF X34 hx hZ hown (host := "") (Or.inl (hw _ (mg (i := 28) rfl))) Via.refl Kq34 p5_F p3_E (Or.inr ⟨(hw _ (mg (i := 29) rfl)), rfl, hnm⟩) (hw _ (mg (i := 14) rfl)) (ty := .byte) (by decide) rfl rfl (g := (mkF m 24 #[.val (.ref a0), .val (.ref a1), .val .null, .val (.ref arr), .val (.int cnt)] [(.int 0), (.ref a0)])) rfl rfl (hb hby d24_24)
  have Fw35 : Fld Z h35 a0 "java/lang/String" "coder" "B" (.int 0) := p5_F.same W35
  have N35 := Fr.snoc X35 N34 p6_g
  have K36 := K0.wr W35 (Or.inl (List.mem_of_getElem? (i := 0) rfl))
  have O36 := p0_O.wr W35 p6_g
  have ne37 : a0 ≠ arr := (ne_arv p3_E (hw _ (mg (i := 14) rfl)) p11_A)
  have ne38 : arr ≠ a0 := (Ne.symm ne37)
  have f39 := (p11_A.other W35 ne38)
  -- pc 32: Arrays.copyOfRange
  obtain ⟨_, _, ⟨T40, L40, k40, n40⟩, -, X40, ⟨Lc40, hQ40, l40, y40, z40⟩, st40⟩ := Jvm.LawKit.callS X35 hx (y := (⟨"java/util/Arrays", "copyOfRange", "([BII)[B"⟩ : MethodName)) hown (mvT hZ (hw _ (mg (i := 160) rfl))) (mvT hZ (hw _ (mg (i := 161) rfl))) (mvT hZ (hw _ (mg (i := 162) rfl))) (mvT hZ (hw _ (mg (i := 163) rfl))) (by decide) (backOf (W := 1) (cor l Z av0 hw [] arr cnt kr bs h35 n0 (own_le O36) f39 (hbs : Ln cnt bs 8)) hZ (hw _ (mg (i := 163) rfl)) (hw _ (mg (i := 162) rfl)) (by decide) (by decide)) (g := (mkF m 32 #[.val (.ref a0), .val (.ref a1), .val .null, .val (.ref arr), .val (.int cnt)] [(.int cnt), (.int 0), (.ref arr), (.ref a0)])) rfl (by rw [hml]; rfl) (argsL := [(.ref arr), (.int 0), (.int cnt)]) (rest := [(.ref a0)]) (lenOf pd_23 rfl) rfl (by show 2 * 0 + _ ≤ _; exact Nat.le_of_eq rfl) (hb hby d24_32) (fun vmx hWx => ⟨rfl, e35, (by decide : 0 + 1 ≤ _), (by decide : 0 + 8 ≤ _)⟩)
  dsimp only [Pt.U, Pt.locs, Pt.cells, Pt.slots] at X40 l40 y40 z40 st40 hQ40
  subst l40 y40 z40
  obtain ⟨b_40, kb_40, rv40, Nq40, Kq40, u40_0, u40_1⟩ := hQ40
  subst rv40
  have N40 := Fr.app N35 Nq40
  have g_b_40 : n0 ≤ b_40 := Nat.le_trans (own_le O36) u40_0
  have sz_b_40 : h0.size ≤ b_40 := Nat.le_trans K36.1 u40_0
  have K41 := K36.trans Kq40 all0
  have O41 := O36.keep Kq40 all0
  have f42 := ((p4_F.other W35 (Or.inr (slot_ne (Or.inr (hw _ (mg (i := 27) rfl))) (Or.inr (hw _ (mg (i := 29) rfl))) (by decide) (t := (.array .byte)) (t' := .byte) (by decide) (by decide)))).keep Kq40 nin0)
  have f43 := ((p3_E.wr W35).keep Kq40)
  obtain ⟨T44, h44, X44, e44, W44, st44⟩ := putF X40 hx hZ hown (host := "") (Or.inl (hw _ (mg (i := 26) rfl))) Via.refl rfl f42 f43 (Or.inr ⟨(hw _ (mg (i := 27) rfl)), rfl, hnm⟩) (hw _ (mg (i := 14) rfl)) (ty := (.array .byte)) (by decide) rfl rfl (g := (mkF m 35 #[.val (.ref a0), .val (.ref a1), .val .null, .val (.ref arr), .val (.int cnt)] [(.ref b_40), (.ref a0)])) rfl rfl (hb hby d24_35)
  have Fw44 : Fld Z h44 a0 "java/lang/String" "value" "[B" (.ref b_40) := f42.same W44
  have N44 := Fr.snoc X44 N40 p6_g
  have K45 := K41.wr W44 (Or.inl (List.mem_of_getElem? (i := 0) rfl))
  have O45 := O41.wr W44 p6_g
  obtain ⟨fs, hrL, hrun, hended, hW, hsame⟩ := X44.leave (v := none) (fun _ => rfl)
  have f46 := (f43.wr W44)
  have f47 := ((Fw35.keep Kq40 nin0).other W44 (Or.inr (slot_ne (Or.inr (hw _ (mg (i := 29) rfl))) (Or.inr (hw _ (mg (i := 27) rfl))) (by decide) (t := .byte) (t' := (.array .byte)) (by decide) (by decide))))
  have ne48 : b_40 ≠ a0 := (Ne.symm (Nat.ne_of_lt (Nat.lt_of_lt_of_le Fw35.lt u40_0)))
  have f49 := (u40_1.other W44 ne48)
  refine ⟨_, _, pre0 _ ?_, hrun, hended, _, _, rfl, ?_, ⟨_, rfl⟩, hW, hsame.mono (by decide) (by decide)⟩
  · show Steps p.tables e below (s₁.setTop (mkF m 0 #[.val (.ref a0), .val (.ref a1), .val .null, .unset, .unset] [])) _
    refine XS.aloadN X0.here hx rfl (hb hby d24_0) rfl rfl ?_
    show Steps p.tables e below (s₁.setTop (mkF m 1 #[.val (.ref a0), .val (.ref a1), .val .null, .unset, .unset] [(.ref a0)])) _
    refine st31 _ ?_
    refine XS.aloadN X31.here hx rfl (hb hby d24_4) rfl rfl ?_
    show Steps p.tables e below (T31.setTop (mkF m 5 #[.val (.ref a0), .val (.ref a1), .val .null, .unset, .unset] [(.ref a1)])) _
    refine st32.trans ?_
    refine XS.astoreN X32.here hx rfl (hb hby d24_8) rfl rfl (l' := #[.val (.ref a0), .val (.ref a1), .val .null, .val (.ref arr), .unset]) rfl ?_
    refine XS.aloadN X32.here hx rfl (hb hby d24_9) rfl rfl ?_
    show Steps p.tables e below (T32.setTop (mkF m 10 #[.val (.ref a0), .val (.ref a1), .val .null, .val (.ref arr), .unset] [(.ref a1)])) _
    refine st33.trans ?_
    show Steps p.tables e below (T33.setTop (mkF m 13 #[.val (.ref a0), .val (.ref a1), .val .null, .val (.ref arr), .unset] [(.int cnt)])) _
    refine XS.istore X33.here hx rfl (hb hby d24_13) rfl (l' := #[.val (.ref a0), .val (.ref a1), .val .null, .val (.ref arr), .val (.int cnt)]) rfl ?_
    refine XS.aloadN X33.here hx rfl (hb hby d24_15) rfl rfl ?_
    show Steps p.tables e below (T33.setTop (mkF m 16 #[.val (.ref a0), .val (.ref a1), .val .null, .val (.ref arr), .val (.int cnt)] [(.ref a1)])) _
    refine st34.trans ?_
    show Steps p.tables e below (T34.setTop (mkF m 19 #[.val (.ref a0), .val (.ref a1), .val .null, .val (.ref arr), .val (.int cnt)] [(.int 1)])) _
    refine XS.ifNo X34.here hx rfl (hb hby d24_19) rfl ((if0 _ _).trans (feq (by decide : ¬ ((1 : Int32) = (0 : Int32)))).1) ?_
    show Steps p.tables e below (T34.setTop (mkF m 22 #[.val (.ref a0), .val (.ref a1), .val .null, .val (.ref arr), .val (.int cnt)] [])) _
    refine XS.aloadN X34.here hx rfl (hb hby d24_22) rfl rfl ?_
    refine XS.iconst X34.here hx rfl (hb hby d24_23) ?_
    show Steps p.tables e below (T34.setTop (mkF m 24 #[.val (.ref a0), .val (.ref a1), .val .null, .val (.ref arr), .val (.int cnt)] [(.int 0), (.ref a0)])) _
    refine st35 _ ?_
    refine XS.aloadN X35.here hx rfl (hb hby d24_27) rfl rfl ?_
    show Steps p.tables e below (T35.setTop (mkF m 28 #[.val (.ref a0), .val (.ref a1), .val .null, .val (.ref arr), .val (.int cnt)] [(.ref a0)])) _
    refine XS.aloadN X35.here hx rfl (hb hby d24_28) rfl rfl ?_
    refine XS.iconst X35.here hx rfl (hb hby d24_29) ?_
    refine XS.iload X35.here hx rfl (hb hby d24_30) rfl ?_
    show Steps p.tables e below (T35.setTop (mkF m 32 #[.val (.ref a0), .val (.ref a1), .val .null, .val (.ref arr), .val (.int cnt)] [(.int cnt), (.int 0), (.ref arr), (.ref a0)])) _
    refine st40 _ ?_
    show Steps p.tables e below (T40.setTop (mkF m 35 #[.val (.ref a0), .val (.ref a1), .val .null, .val (.ref arr), .val (.int cnt)] [(.ref b_40), (.ref a0)])) _
    refine st44 _ ?_
    refine XS.goto X44.here hx rfl (pc0 := 38) (pc' := 97) rfl (hb hby d24_38) (by decide) (by decide) ?_
    show Steps p.tables e below (T44.setTop (mkF m 97 #[.val (.ref a0), .val (.ref a1), .val .null, .val (.ref arr), .val (.int cnt)] [])) _
    exact X44.returnOut hx Bd.returns (hb hby d24_97) hrL
  · show Q_siv _ _ _ _ _ _ _ _ _ _ _  T44.heap _
    rw [e44]
    exact ⟨b_40, kb_40, rfl, N44, K45, f46, f47, Fw44, sz_b_40, f49⟩
theorem d23_0 : decode jdk_42_method_53_code 0 = .ok (.aload_n 0, 1) := by decide +kernel
theorem d23_1 : decode jdk_42_method_53_code 1 = .ok (.aload_n 1, 1) := by decide +kernel
theorem d23_2 : decode jdk_42_method_53_code 2 = .ok (.aconst_null, 1) := by decide +kernel
theorem d23_3 : decode jdk_42_method_53_code 3 = .ok (.invokespecial 489, 3) := by decide +kernel
theorem pd_20 : parseMethodDescriptor "(Ljava/lang/AbstractStringBuilder;Ljava/lang/Void;)V" = some ⟨[(.object "java/lang/AbstractStringBuilder"), (.object "java/lang/Void")], none⟩ := by decide +kernel
theorem d23_6 : decode jdk_42_method_53_code 6 = .ok (.return_, 1) := by decide +kernel
theorem ef_sis (m : MethodId) (a0 : Addr) (a1 : Addr) : entryFrame m #[(.ref a0), (.ref a1)] 2 = mkF m 0 #[.val (.ref a0), .val (.ref a1)] [] := by first | (simp [entryFrame, mkF, argsToLocals, Value.category]; done) | rfl
def Q_sis (Z : State) (a0 : Addr) (a1 : Addr) (arr : Addr) (kr : ClassId) (cnt : Int32) (bs : List Value) (cs : Int32) (h0 : Heap) (n0 : Nat) (v : Option Value) (h : Heap) (L : List Loc) : Prop := ∃ b : Addr, ∃ kb : ClassId, v = none ∧ Fr n0 L ∧ Keep h0 h [a0] ∧ Exa Z h a0 "java/lang/String" ∧ Fld Z h a0 "java/lang/String" "coder" "B" (.int 0) ∧ Fld Z h a0 "java/lang/String" "value" "[B" (.ref b) ∧ h0.size ≤ b ∧ Arv Z h b kb .byte cnt bs (.int 0)
set_option maxRecDepth 65536 in
set_option maxHeartbeats 40000000 in
theorem sis (l : Launch) (Z : State) (av0 : Array Value) (hw : ∀ d ∈ tables_1, d.before av0 Z = true) (ws : List Jvm.Cond) (a0 : Addr) (a1 : Addr) (arr : Addr) (kr : ClassId) (cnt : Int32) (bs : List Value) (cs : Int32) (h0 : Heap) (n0 : Nat) (Z0 : n0 ≤ h0.size) (p0_O : Old Z n0 h0) (p1_S : Sta Z Z.heap "java/lang/String" "COMPACT_STRINGS" "Z" (.int cs)) (hcs : ¬ (cs = (0 : Int32))) (p3_E : Exa Z h0 a0 "java/lang/String") (p4_F : Fld Z h0 a0 "java/lang/String" "value" "[B" .null) (p5_F : Fld Z h0 a0 "java/lang/String" "coder" "B" (.int 0)) (p6_g : n0 ≤ a0) (p7_E : Exa Z h0 a1 "java/lang/StringBuilder") (p8_F : Fld Z h0 a1 "java/lang/AbstractStringBuilder" "value" "[B" (.ref arr)) (p9_F : Fld Z h0 a1 "java/lang/AbstractStringBuilder" "coder" "B" (.int 0)) (p10_F : Fld Z h0 a1 "java/lang/AbstractStringBuilder" "count" "I" (.int cnt)) (p11_A : Arv Z h0 arr kr .byte (16 : Int32) (Pd bs) (.int 0)) (hbs : Ln cnt bs 8) :
    MetFree l (⟨"java/lang/String", "<init>", "(Ljava/lang/StringBuilder;)V"⟩ : MethodName) (head1 (Jvm.Cond.code (⟨"java/lang/String", "<init>", "(Ljava/lang/StringBuilder;)V"⟩ : MethodName) jdk_42_method_53_code 2 none :: ws) ({ frames := 4, cells := 1, slots := 8, locals := 65 } : Room)) (fun a U => a = #[(.ref a0), (.ref a1)] ∧ Z.Warmed39 U.vm ∧ U.heap = h0) (fun _ _ _ _ _ => True) (fun _ U o U' => ∃ v L, o = .returned v ∧ Q_sis Z a0 a1 arr kr cnt bs cs h0 n0 v U'.heap L ∧ FrameEnd U o U' L ({ frames := 4, cells := 1, slots := 8, locals := 65 } : Room).cells ({ frames := 4, cells := 1, slots := 8, locals := 65 } : Room).slots) := by
  refine MetFree.of_bodySF (plainFor_of_name pn_java_lang_String) hisR ?_
  intro p e s m args below meth c s₁ Bd hml0 hP hK
  obtain ⟨rfl, hZ, hh⟩ := hP
  have hx := Bd.exec
  have hby := Bd.bytes
  have hml : c.maxLocals = 2 := hml0
  have hown : s.vm.findClass "java/lang/String" = some m.cls := findClass_of_methodNamed Bd.named
  have hnm := (name_of_methodNamed Bd.named Bd.method).1
  have X0 : Stand p l e ({ frames := 4, cells := 1, slots := 8, locals := 65 } : Room) s m #[(.ref a0), (.ref a1)] below meth c s₁ [] 0 0 := Stand.of_body Bd
  have e0 : s₁.heap = h0 := by rw [← hh, Bd.state]; rfl
  have N0 := Fr.nil n0
  have pre0 : ∀ tz_, Steps p.tables e below (s₁.setTop (mkF m 0 #[.val (.ref a0), .val (.ref a1)] [])) tz_ → Steps p.tables e below (s₁.setTop (entryFrame m #[(.ref a0), (.ref a1)] 2)) tz_ := fun tz_ kz_ => castTop (ef_sis m a0 a1) kz_
  have K0 : Keep h0 h0 [a0] := Keep.refl h0 [a0]
  -- pc 3: String.init
  obtain ⟨_, _, ⟨T31, L31, k31, n31⟩, -, X31, ⟨Lc31, hQ31, l31, y31, z31⟩, st31⟩ := X0.specialBack hx (y := (⟨"java/lang/String", "<init>", "(Ljava/lang/AbstractStringBuilder;Ljava/lang/Void;)V"⟩ : MethodName)) rfl hown (mvT hZ (hw _ (mg (i := 139) rfl))) (mvT hZ (hw _ (mg (i := 140) rfl))) (mvT hZ (hw _ (mg (i := 141) rfl))) (by decide) (backOf (W := 0) (siv l Z av0 hw [] a0 a1 arr kr cnt bs cs h0 n0 (own_le p0_O) p0_O p1_S (hcs : ¬ (cs = (0 : Int32))) p3_E p4_F p5_F p6_g p7_E p8_F p9_F p10_F p11_A (hbs : Ln cnt bs 8)) hZ (hw _ (mg (i := 141) rfl)) (hw _ (mg (i := 6) rfl)) (by decide) (by decide)) (g := (mkF m 3 #[.val (.ref a0), .val (.ref a1)] [.null, (.ref a1), (.ref a0)])) rfl (by rw [hml]; rfl) (Steps.refl _) (a := a0) (argsL := [(.ref a1), .null]) (rest := []) (lenOf pd_20 rfl) rfl (by show 2 * 0 + _ ≤ _; exact Nat.le_of_eq rfl) (hb hby d23_3) (fun vmx hWx => ⟨rfl, e0, (by decide : 0 + 1 ≤ _), (by decide : 0 + 8 ≤ _)⟩)
  dsimp only [Pt.U, Pt.locs, Pt.cells, Pt.slots] at X31 l31 y31 z31 st31 hQ31
  subst l31 y31 z31
  obtain ⟨b_31, kb_31, rv31, Nq31, Kq31, u31_0, u31_1, u31_2, u31_3, u31_4⟩ := hQ31
  subst rv31
  have N31 := Fr.app N0 Nq31
  have g_b_31 : n0 ≤ b_31 := Nat.le_trans (own_le p0_O) u31_3
  have sz_b_31 : h0.size ≤ b_31 := Nat.le_trans K0.1 u31_3
  have K32 := K0.trans Kq31 (allS (Or.inl (List.mem_of_getElem? (i := 0) rfl)) all0)
  have O32 := p0_O.keep Kq31 (allS p6_g all0)
  obtain ⟨fs, hrL, hrun, hended, hW, hsame⟩ := X31.leave (v := none) (fun _ => rfl)
  refine ⟨_, _, pre0 _ ?_, hrun, hended, _, _, rfl, ?_, ⟨_, rfl⟩, hW, hsame.mono (by decide) (by decide)⟩
  · show Steps p.tables e below (s₁.setTop (mkF m 0 #[.val (.ref a0), .val (.ref a1)] [])) _
    refine XS.aloadN X0.here hx rfl (hb hby d23_0) rfl rfl ?_
    refine XS.aloadN X0.here hx rfl (hb hby d23_1) rfl rfl ?_
    refine XS.aconstNull X0.here hx rfl (hb hby d23_2) ?_
    show Steps p.tables e below (s₁.setTop (mkF m 3 #[.val (.ref a0), .val (.ref a1)] [.null, (.ref a1), (.ref a0)])) _
    refine st31.trans ?_
    show Steps p.tables e below (T31.setTop (mkF m 6 #[.val (.ref a0), .val (.ref a1)] [])) _
    exact X31.returnOut hx Bd.returns (hb hby d23_6) hrL
  · show Q_sis _ _ _ _ _ _ _ _ _ _ _  T31.heap _
    exact ⟨b_31, kb_31, rfl, N31, K32, u31_0, u31_1, u31_2, sz_b_31, u31_4⟩
theorem d22_0 : decode jdk_67_method_42_code 0 = .ok (.new 18, 3) := by decide +kernel
theorem d22_3 : decode jdk_67_method_42_code 3 = .ok (.dup, 1) := by decide +kernel
theorem d22_4 : decode jdk_67_method_42_code 4 = .ok (.aload_n 0, 1) := by decide +kernel
theorem d22_5 : decode jdk_67_method_42_code 5 = .ok (.invokespecial 137, 3) := by decide +kernel
theorem pd_19 : parseMethodDescriptor "(Ljava/lang/StringBuilder;)V" = some ⟨[(.object "java/lang/StringBuilder")], none⟩ := by decide +kernel
theorem d22_8 : decode jdk_67_method_42_code 8 = .ok (.areturn, 1) := by decide +kernel
theorem ef_sts (m : MethodId) (a0 : Addr) : entryFrame m #[(.ref a0)] 1 = mkF m 0 #[.val (.ref a0)] [] := by first | (simp [entryFrame, mkF, argsToLocals, Value.category]; done) | rfl
def Q_sts (Z : State) (a0 : Addr) (arr : Addr) (kr : ClassId) (cnt : Int32) (bs : List Value) (cs : Int32) (h0 : Heap) (n0 : Nat) (v : Option Value) (h : Heap) (L : List Loc) : Prop := ∃ b : Addr, ∃ vb : Addr, ∃ kb : ClassId, v = some (.ref b) ∧ Fr n0 L ∧ Keep h0 h [] ∧ h0.size ≤ b ∧ Exa Z h b "java/lang/String" ∧ Fld Z h b "java/lang/String" "coder" "B" (.int 0) ∧ Fld Z h b "java/lang/String" "value" "[B" (.ref vb) ∧ Arv Z h vb kb .byte cnt bs (.int 0)
set_option maxRecDepth 65536 in
set_option maxHeartbeats 40000000 in
theorem sts (l : Launch) (Z : State) (av0 : Array Value) (hw : ∀ d ∈ tables_1, d.before av0 Z = true) (ws : List Jvm.Cond) (a0 : Addr) (arr : Addr) (kr : ClassId) (cnt : Int32) (bs : List Value) (cs : Int32) (h0 : Heap) (n0 : Nat) (Z0 : n0 ≤ h0.size) (p0_O : Old Z n0 h0) (p1_S : Sta Z Z.heap "java/lang/String" "COMPACT_STRINGS" "Z" (.int cs)) (hcs : ¬ (cs = (0 : Int32))) (p3_E : Exa Z h0 a0 "java/lang/StringBuilder") (p4_F : Fld Z h0 a0 "java/lang/AbstractStringBuilder" "value" "[B" (.ref arr)) (p5_F : Fld Z h0 a0 "java/lang/AbstractStringBuilder" "coder" "B" (.int 0)) (p6_F : Fld Z h0 a0 "java/lang/AbstractStringBuilder" "count" "I" (.int cnt)) (p7_A : Arv Z h0 arr kr .byte (16 : Int32) (Pd bs) (.int 0)) (hbs : Ln cnt bs 8) :
    MetFree l (⟨"java/lang/StringBuilder", "toString", "()Ljava/lang/String;"⟩ : MethodName) (head1 (Jvm.Cond.code (⟨"java/lang/StringBuilder", "toString", "()Ljava/lang/String;"⟩ : MethodName) jdk_67_method_42_code 1 (some (.object "java/lang/String")) :: ws) ({ frames := 5, cells := 2, slots := 12, locals := 79 } : Room)) (fun a U => a = #[(.ref a0)] ∧ Z.Warmed39 U.vm ∧ U.heap = h0) (fun _ _ _ _ _ => True) (fun _ U o U' => ∃ v L, o = .returned v ∧ Q_sts Z a0 arr kr cnt bs cs h0 n0 v U'.heap L ∧ FrameEnd U o U' L ({ frames := 5, cells := 2, slots := 12, locals := 79 } : Room).cells ({ frames := 5, cells := 2, slots := 12, locals := 79 } : Room).slots) := by
  refine MetFree.of_bodySF (plainFor_of_name pn_java_lang_StringBuilder) hisR ?_
  intro p e s m args below meth c s₁ Bd hml0 hP hK
  obtain ⟨rfl, hZ, hh⟩ := hP
  have hx := Bd.exec
  have hby := Bd.bytes
  have hml : c.maxLocals = 1 := hml0
  have hown : s.vm.findClass "java/lang/StringBuilder" = some m.cls := findClass_of_methodNamed Bd.named
  have hnm := (name_of_methodNamed Bd.named Bd.method).1
  have X0 : Stand p l e ({ frames := 5, cells := 2, slots := 12, locals := 79 } : Room) s m #[(.ref a0)] below meth c s₁ [] 0 0 := Stand.of_body Bd
  have e0 : s₁.heap = h0 := by rw [← hh, Bd.state]; rfl
  have N0 := Fr.nil n0
  have pre0 : ∀ tz_, Steps p.tables e below (s₁.setTop (mkF m 0 #[.val (.ref a0)] [])) tz_ → Steps p.tables e below (s₁.setTop (entryFrame m #[(.ref a0)] 1)) tz_ := fun tz_ kz_ => castTop (ef_sts m a0) kz_
  have K0 : Keep h0 h0 [] := Keep.refl h0 []
  obtain ⟨T31, h31, X31, e31, E31, A31, D31, -, st31⟩ := newO X0 hx hZ hown (hw _ (mg (i := 135) rfl)) (hw _ (mg (i := 14) rfl)) (hw _ (mg (i := 6) rfl)) e0 (g := (mkF m 0 #[.val (.ref a0)] [])) rfl (hb hby d22_0) (by decide) (by decide)
  obtain ⟨b31, q31⟩ : ∃ z, z = h0.size := ⟨_, rfl⟩
  rw [← q31] at A31 D31 st31
  have g_b31 : n0 ≤ b31 := Nat.le_trans (own_le p0_O) (Nat.le_of_eq q31.symm)
  have sz_b31 : h0.size ≤ b31 := Nat.le_trans K0.1 (Nat.le_of_eq q31.symm)
  have K32 := K0.ext E31
  have O32 := p0_O.ext E31
  have F31_value : Fld Z h31 b31 "java/lang/String" "value" "[B" .null := D31 (Or.inr (hw _ (mg (i := 27) rfl))) (ty := (.array .byte)) (by decide)
  have F31_coder : Fld Z h31 b31 "java/lang/String" "coder" "B" (.int 0) := D31 (Or.inr (hw _ (mg (i := 29) rfl))) (ty := .byte) (by decide)
  have f33 := (p3_E.ext E31)
  have f34 := (p4_F.ext E31)
  have f35 := (p5_F.ext E31)
  have f36 := (p6_F.ext E31)
  have f37 := (p7_A.ext E31)
  -- pc 5: String.init
  obtain ⟨_, _, ⟨T38, L38, k38, n38⟩, -, X38, ⟨Lc38, hQ38, l38, y38, z38⟩, st38⟩ := X31.specialBack hx (y := (⟨"java/lang/String", "<init>", "(Ljava/lang/StringBuilder;)V"⟩ : MethodName)) rfl hown (mvT hZ (hw _ (mg (i := 136) rfl))) (mvT hZ (hw _ (mg (i := 137) rfl))) (mvT hZ (hw _ (mg (i := 138) rfl))) (by decide) (backOf (W := 1) (sis l Z av0 hw [] b31 a0 arr kr cnt bs cs h31 n0 (own_le O32) O32 p1_S (hcs : ¬ (cs = (0 : Int32))) A31 F31_value F31_coder g_b31 f33 f34 f35 f36 f37 (hbs : Ln cnt bs 8)) hZ (hw _ (mg (i := 138) rfl)) (hw _ (mg (i := 6) rfl)) (by decide) (by decide)) (g := (mkF m 5 #[.val (.ref a0)] [(.ref a0), (.ref b31), (.ref b31)])) rfl (by rw [hml]; rfl) (Steps.refl _) (a := b31) (argsL := [(.ref a0)]) (rest := [(.ref b31)]) (lenOf pd_19 rfl) rfl (by show 2 * 0 + _ ≤ _; exact Nat.le_of_eq rfl) (hb hby d22_5) (fun vmx hWx => ⟨rfl, e31, (by decide : 1 + 1 ≤ _), (by decide : 4 + 8 ≤ _)⟩)
  dsimp only [Pt.U, Pt.locs, Pt.cells, Pt.slots] at X38 l38 y38 z38 st38 hQ38
  subst l38 y38 z38
  obtain ⟨b_38, kb_38, rv38, Nq38, Kq38, u38_0, u38_1, u38_2, u38_3, u38_4⟩ := hQ38
  subst rv38
  have N38 := Fr.app N0 Nq38
  have g_b_38 : n0 ≤ b_38 := Nat.le_trans (own_le O32) u38_3
  have sz_b_38 : h0.size ≤ b_38 := Nat.le_trans K32.1 u38_3
  have K39 := K32.trans Kq38 (allS (Or.inr sz_b31) all0)
  have O39 := O32.keep Kq38 (allS g_b31 all0)
  obtain ⟨fs, hrL, hrun, hended, hW, hsame⟩ := X38.leave (v := some (.ref b31)) (fun h => by rw [Bd.returns] at h; cases h)
  refine ⟨_, _, pre0 _ ?_, hrun, hended, _, _, rfl, ?_, ⟨_, rfl⟩, hW, hsame.mono (by decide) (by decide)⟩
  · show Steps p.tables e below (s₁.setTop (mkF m 0 #[.val (.ref a0)] [])) _
    refine st31 _ ?_
    refine XS.dup X31.here hx rfl (hb hby d22_3) rfl rfl ?_
    refine XS.aloadN X31.here hx rfl (hb hby d22_4) rfl rfl ?_
    show Steps p.tables e below (T31.setTop (mkF m 5 #[.val (.ref a0)] [(.ref a0), (.ref b31), (.ref b31)])) _
    refine st38.trans ?_
    show Steps p.tables e below (T38.setTop (mkF m 8 #[.val (.ref a0)] [(.ref b31)])) _
    exact retOut X38 hx Bd.returns rfl (Or.inr (Or.inr (Or.inr (Or.inr ⟨rfl, rfl, rfl⟩)))) (hb hby d22_8) hrL
  · show Q_sts _ _ _ _ _ _ _ _ _ _  T38.heap _
    exact ⟨b31, b_38, kb_38, rfl, N38, K39, sz_b31, u38_0, u38_1, u38_2, u38_4⟩
def Tot (xA xB xC : List Int32) : List Int32 := xA ++ (47 :: (xB ++ (47 :: xC)))
theorem own_gd {xs : List Int32} {vs : List Value} (h : vs = xs.map Value.int) (n : Nat) : vs.getD n (.int 0) = .int (xs.getD n 0) := by
  subst h
  simp only [List.getD_eq_getElem?_getD, List.getElem?_map]
  cases xs[n]? <;> rfl
theorem own_sub {i z : Int32} (h0 : ¬ i < (0 : Int32)) (h : ¬ i < z) (hz : ¬ z < (0 : Int32)) : (i - z).toInt = i.toInt - z.toInt ∧ ¬ (i - z) < (0 : Int32) := by
  rw [i32lt] at h0 h hz ⊢
  rw [show (0 : Int32).toInt = 0 from by decide] at h0 hz ⊢
  have e := c_isub i z
  have r := rng32 (i - z)
  have r1 := rng32 i
  have r2 := rng32 z
  omega
theorem own_dec {j : Int32} (h0 : ¬ j < (0 : Int32)) (h : ¬ (j = (0 : Int32))) : (j + (-1 : Int32)).toInt = j.toInt - 1 ∧ ¬ (j + (-1 : Int32)) < (0 : Int32) := by
  rw [i32lt] at h0 ⊢
  rw [show (0 : Int32).toInt = 0 from by decide] at h0 ⊢
  have q : ¬ j.toInt = 0 := fun e => h (Int32.toInt_inj.mp (e.trans (by decide)))
  have e := c_iadd j (-1)
  rw [show (-1 : Int32).toInt = -1 from by decide] at e
  have r := rng32 (j + (-1))
  have r1 := rng32 j
  omega
theorem own_len2 {z : Int32} {vs : List Value} {xs : List Int32} {m : Nat} (h : Ln z vs m) (hx : vs = xs.map Value.int) : z.toInt = xs.length := by
  have := h.toI.1
  rw [this, hx, List.length_map]
theorem own_a1 {i z : Int32} {xA xB xC : List Int32} (h0 : ¬ i < (0 : Int32)) (hz : z.toInt = xA.length) (h : i < z) : (xA.getD i.toNatClampNeg 0 &&& (255 : Int32)) = ((Tot xA xB xC).getD i.toNatClampNeg 0 &&& (255 : Int32)) := by
  have e := i32n h0
  rw [i32lt] at h
  have q : i.toNatClampNeg < xA.length := by omega
  unfold Tot
  simp only [List.getD_eq_getElem?_getD]
  rw [List.getElem?_append_left q]
theorem own_at {xA ys : List Int32} {i j : Nat} (h : i = xA.length + 1 + j) : (xA ++ (47 :: ys)).getD i 0 = ys.getD j 0 := by
  simp only [List.getD_eq_getElem?_getD]
  rw [List.getElem?_append_right (by omega), show i - xA.length = j + 1 from by omega, List.getElem?_cons_succ]
theorem own_at0 {xA ys : List Int32} {i : Nat} (h : i = xA.length) : (xA ++ (47 :: ys)).getD i 0 = 47 := by
  simp only [List.getD_eq_getElem?_getD]
  rw [List.getElem?_append_right (by omega), show i - xA.length = 0 from by omega, List.getElem?_cons_zero]; rfl
theorem own_zero {j : Int32} (h : j = (0 : Int32)) : j.toInt = 0 := by rw [h]; decide
theorem own_cnt {a b c la lb lc : Int32} {vA vB vC : List Value} (hA : Ln a vA 2) (hB : Ln b vB 2) (hC : Ln c vC 2) (ea : a = la) (eb : b = lb) (ec : c = lc) : ((((((0 : Int32) + a) + (1 : Int32)) + b) + (1 : Int32)) + c) = (((la + lb) + lc) + (2 : Int32)) := by
  subst ea eb ec
  have h1 := hA.toI; have h2 := hB.toI; have h3 := hC.toI
  have e1 := c_iadd 0 a; have e2 := c_iadd (0 + a) 1; have e3 := c_iadd (0 + a + 1) b; have e4 := c_iadd (0 + a + 1 + b) 1; have e5 := c_iadd (0 + a + 1 + b + 1) c
  have f1 := c_iadd a b; have f2 := c_iadd (a + b) c; have f3 := c_iadd (a + b + c) 2
  rw [show (0 : Int32).toInt = 0 from by decide] at e1
  rw [show (1 : Int32).toInt = 1 from by decide] at e2 e4
  rw [show (2 : Int32).toInt = 2 from by decide] at f3
  have r1 := rng32 (0 + a); have r2 := rng32 (0 + a + 1); have r3 := rng32 (0 + a + 1 + b); have r4 := rng32 (0 + a + 1 + b + 1); have r5 := rng32 (0 + a + 1 + b + 1 + c)
  have s1 := rng32 (a + b); have s2 := rng32 (a + b + c); have s3 := rng32 (a + b + c + 2)
  exact Int32.toInt_inj.mp (by omega)
theorem own_nearr {Z : State} {h : Heap} {a b : Addr} {k k' : ClassId} {ty ty' : FieldType} {z z' : Int32} {vs vs' : List Value} {d d' : Value} (F : Arv Z h a k ty z vs d) (G : Arv Z h b k' ty' z' vs' d') (q : z.toNatClampNeg ≠ z'.toNatClampNeg) : a ≠ b := fun e => by
  subst e
  obtain ⟨c, A, -, s1, -⟩ := F
  obtain ⟨c', A', -, s2, -⟩ := G
  cases A.1.symm.trans A'.1
  exact q (s1.symm.trans s2)
theorem own_totv {xA xB xC : List Int32} {vA vB vC : List Value} (a : vA = xA.map Value.int) (b : vB = xB.map Value.int) (c : vC = xC.map Value.int) : ((((([] ++ vA) ++ [(.int 47)]) ++ vB) ++ [(.int 47)]) ++ vC) = (Tot xA xB xC).map Value.int := by
  subst a b c
  simp [Tot]
theorem own_r3 (x : Int32) : ((x &&& (3 : Int32)) % (3 : Int32)) = (0 : Int32) ∨ ((x &&& (3 : Int32)) % (3 : Int32)) = (1 : Int32) ∨ ((x &&& (3 : Int32)) % (3 : Int32)) = (2 : Int32) := by
  have h0 := c_and x 3 (by decide)
  have h := (c_irem (x &&& 3) 3 3 (by decide)).1 h0.1
  generalize (x &&& (3 : Int32)) % (3 : Int32) = k at h ⊢
  rcases (by omega : k.toInt = 0 ∨ k.toInt = 1 ∨ k.toInt = 2) with h | h | h
  · exact Or.inl (Int32.toInt_inj.mp h)
  · exact Or.inr (Or.inl (Int32.toInt_inj.mp h))
  · exact Or.inr (Or.inr (Int32.toInt_inj.mp h))
theorem own_im1 : Int32.ofInt (-1) = (-1 : Int32) := by first | decide +kernel | decide
theorem own_nar47 : narrow .char (.int (47 : Int32)) = .int (47 : Int32) := by first | exact congrArg Value.int (by decide +kernel) | (simp only [narrow]; congr 1) | rfl
theorem own_totl {xA xB xC : List Int32} : (Tot xA xB xC).length = xA.length + xB.length + xC.length + 2 := by
  unfold Tot
  rw [List.length_append, List.length_cons, List.length_append, List.length_cons]
  omega
theorem own_ar {i a b c : Int} {x y z : Nat} (ht : i < ((x + y + z + 2 : Nat) : Int)) (ha : a = x) (hb : b = y) (hc : c = z) : i - a - 1 - b - 1 < c := by omega
section At
variable {i zA zB zC : Int32} {vA vB vC : List Value} {xA xB xC : List Int32}
theorem own_a2 (h0 : ¬ i < (0 : Int32)) (hA : Ln zA vA 2) (hxA : vA = xA.map Value.int) (n1 : ¬ i < zA) (e1 : (i - zA) = (0 : Int32)) : (47 : Int32) = ((Tot xA xB xC).getD i.toNatClampNeg 0 &&& (255 : Int32)) := by
  have e0 := i32n h0
  have lA := own_len2 hA hxA
  have s1 := own_sub h0 n1 hA.1
  have z1 := own_zero e1
  have q : i.toNatClampNeg = xA.length := by omega
  have r : (Tot xA xB xC).getD i.toNatClampNeg 0 = 47 := own_at0 q
  rw [r]; decide
theorem own_a3 (h0 : ¬ i < (0 : Int32)) (hA : Ln zA vA 2) (hxA : vA = xA.map Value.int) (hB : Ln zB vB 2) (hxB : vB = xB.map Value.int) (n1 : ¬ i < zA) (e1 : ¬ ((i - zA) = (0 : Int32))) (u : ((i - zA) + (-1 : Int32)) < zB) : (xB.getD ((i - zA) + (-1 : Int32)).toNatClampNeg 0 &&& (255 : Int32)) = ((Tot xA xB xC).getD i.toNatClampNeg 0 &&& (255 : Int32)) := by
  have e0 := i32n h0
  have lA := own_len2 hA hxA
  have lB := own_len2 hB hxB
  have s1 := own_sub h0 n1 hA.1
  have d1 := own_dec s1.2 e1
  have g1 := i32n d1.2
  rw [i32lt] at u
  generalize ((i - zA) + (-1 : Int32)) = j at *
  have q : i.toNatClampNeg = xA.length + 1 + j.toNatClampNeg := by omega
  have r : (Tot xA xB xC).getD i.toNatClampNeg 0 = (xB ++ (47 :: xC)).getD j.toNatClampNeg 0 := own_at q
  rw [r]
  simp only [List.getD_eq_getElem?_getD]
  rw [List.getElem?_append_left (by omega)]
theorem own_a4 (h0 : ¬ i < (0 : Int32)) (hA : Ln zA vA 2) (hxA : vA = xA.map Value.int) (hB : Ln zB vB 2) (hxB : vB = xB.map Value.int) (n1 : ¬ i < zA) (e1 : ¬ ((i - zA) = (0 : Int32))) (n2 : ¬ ((i - zA) + (-1 : Int32)) < zB) (e2 : (((i - zA) + (-1 : Int32)) - zB) = (0 : Int32)) : (47 : Int32) = ((Tot xA xB xC).getD i.toNatClampNeg 0 &&& (255 : Int32)) := by
  have e0 := i32n h0
  have lA := own_len2 hA hxA
  have lB := own_len2 hB hxB
  have s1 := own_sub h0 n1 hA.1
  have d1 := own_dec s1.2 e1
  have s2 := own_sub d1.2 n2 hB.1
  have z2 := own_zero e2
  have q : i.toNatClampNeg = xA.length + 1 + xB.length := by omega
  have r : (Tot xA xB xC).getD i.toNatClampNeg 0 = (xB ++ (47 :: xC)).getD xB.length 0 := own_at q
  rw [r, own_at0 rfl]; decide
theorem own_a5 (h0 : ¬ i < (0 : Int32)) (hA : Ln zA vA 2) (hxA : vA = xA.map Value.int) (hB : Ln zB vB 2) (hxB : vB = xB.map Value.int) (n1 : ¬ i < zA) (e1 : ¬ ((i - zA) = (0 : Int32))) (n2 : ¬ ((i - zA) + (-1 : Int32)) < zB) (e2 : ¬ ((((i - zA) + (-1 : Int32)) - zB) = (0 : Int32))) : (xC.getD ((((i - zA) + (-1 : Int32)) - zB) + (-1 : Int32)).toNatClampNeg 0 &&& (255 : Int32)) = ((Tot xA xB xC).getD i.toNatClampNeg 0 &&& (255 : Int32)) := by
  have e0 := i32n h0
  have lA := own_len2 hA hxA
  have lB := own_len2 hB hxB
  have s1 := own_sub h0 n1 hA.1
  have d1 := own_dec s1.2 e1
  have s2 := own_sub d1.2 n2 hB.1
  have d2 := own_dec s2.2 e2
  have g2 := i32n d2.2
  generalize ((((i - zA) + (-1 : Int32)) - zB) + (-1 : Int32)) = j at *
  have q : i.toNatClampNeg = xA.length + 1 + (xB.length + 1 + j.toNatClampNeg) := by omega
  have r : (Tot xA xB xC).getD i.toNatClampNeg 0 = (xB ++ (47 :: xC)).getD (xB.length + 1 + j.toNatClampNeg) 0 := own_at q
  rw [r, own_at (j := j.toNatClampNeg) rfl]
theorem own_a6 (h0 : ¬ i < (0 : Int32)) (hA : Ln zA vA 2) (hxA : vA = xA.map Value.int) (hB : Ln zB vB 2) (hxB : vB = xB.map Value.int) (hC : Ln zC vC 2) (hxC : vC = xC.map Value.int) (ht : i.toInt < (Tot xA xB xC).length) (n1 : ¬ i < zA) (e1 : ¬ ((i - zA) = (0 : Int32))) (n2 : ¬ ((i - zA) + (-1 : Int32)) < zB) (e2 : ¬ ((((i - zA) + (-1 : Int32)) - zB) = (0 : Int32))) : ((((i - zA) + (-1 : Int32)) - zB) + (-1 : Int32)) < zC := by
  have hl : (Tot xA xB xC).length = xA.length + xB.length + xC.length + 2 := own_totl
  rw [hl] at ht
  have s1 := own_sub h0 n1 hA.1
  have d1 := own_dec s1.2 e1
  have s2 := own_sub d1.2 n2 hB.1
  have d2 := own_dec s2.2 e2
  rw [i32lt, d2.1, s2.1, d1.1, s1.1]
  exact own_ar ht (own_len2 hA hxA) (own_len2 hB hxB) (own_len2 hC hxC)
end At

theorem own_wS {Z : State} {a : Array Value} (hw : ∀ d ∈ tables_1, d.before a Z = true) : ∀ d ∈ Bundle.stringAtoms, d.before a Z = true := fun d hd => by
  simp only [Bundle.stringAtoms, Bundle.sN, List.mem_cons, List.not_mem_nil, or_false] at hd
  rcases hd with rfl | rfl | rfl | rfl | rfl | rfl | rfl
  · exact (hw _ (mg (i := 6) rfl))
  · exact (hw _ (mg (i := 14) rfl))
  · exact (hw _ (mg (i := 18) rfl))
  · exact (hw _ (mg (i := 27) rfl))
  · exact (hw _ (mg (i := 29) rfl))
  · exact (hw _ (mg (i := 39) rfl))
  · exact (hw _ (mg (i := 40) rfl))
theorem d10_0 : decode jdk_30_method_1_code 0 = .ok (.aload_n 0, 1) := by decide +kernel
theorem d10_1 : decode jdk_30_method_1_code 1 = .ok (.invokespecial 1, 3) := by decide +kernel
theorem d10_4 : decode jdk_30_method_1_code 4 = .ok (.return_, 1) := by decide +kernel
theorem pn_java_lang_Record : plainName "java/lang/Record" = true := by first | (simp [plainName, overriddenIn]; done) | decide +kernel
theorem ef_rm10 (m : MethodId) (a0 : Addr) : entryFrame m #[(.ref a0)] 1 = mkF m 0 #[.val (.ref a0)] [] := by first | (simp [entryFrame, mkF, argsToLocals, Value.category]; done) | rfl
def Q_rm10 (Z : State) (a0 : Addr) (h0 : Heap) (n0 : Nat) (v : Option Value) (h : Heap) (L : List Loc) : Prop := v = none ∧ Fr n0 L ∧ h = h0
set_option maxRecDepth 65536 in
set_option maxHeartbeats 40000000 in
theorem rm10 (l : Launch) (Z : State) (av0 : Array Value) (hw : ∀ d ∈ tables_1, d.before av0 Z = true) (ws : List Jvm.Cond) (a0 : Addr) (h0 : Heap) (n0 : Nat) (Z0 : n0 ≤ h0.size) :
    MetFree l (⟨"java/lang/Record", "<init>", "()V"⟩ : MethodName) (head1 (Jvm.Cond.code (⟨"java/lang/Record", "<init>", "()V"⟩ : MethodName) jdk_30_method_1_code 1 none :: ws) ({ frames := 1, cells := 0, slots := 0, locals := 12 } : Room)) (fun a U => a = #[(.ref a0)] ∧ Z.Warmed39 U.vm ∧ U.heap = h0) (fun _ _ _ _ _ => True) (fun _ U o U' => ∃ v L, o = .returned v ∧ Q_rm10 Z a0 h0 n0 v U'.heap L ∧ FrameEnd U o U' L ({ frames := 1, cells := 0, slots := 0, locals := 12 } : Room).cells ({ frames := 1, cells := 0, slots := 0, locals := 12 } : Room).slots) := by
  refine MetFree.of_bodySF (plainFor_of_name pn_java_lang_Record) hisR ?_
  intro p e s m args below meth c s₁ Bd hml0 hP hK
  obtain ⟨rfl, hZ, hh⟩ := hP
  have hx := Bd.exec
  have hby := Bd.bytes
  have hml : c.maxLocals = 1 := hml0
  have hown : s.vm.findClass "java/lang/Record" = some m.cls := findClass_of_methodNamed Bd.named
  have hnm := (name_of_methodNamed Bd.named Bd.method).1
  have X0 : Stand p l e ({ frames := 1, cells := 0, slots := 0, locals := 12 } : Room) s m #[(.ref a0)] below meth c s₁ [] 0 0 := Stand.of_body Bd
  have e0 : s₁.heap = h0 := by rw [← hh, Bd.state]; rfl
  have N0 := Fr.nil n0
  have pre0 : ∀ tz_, Steps p.tables e below (s₁.setTop (mkF m 0 #[.val (.ref a0)] [])) tz_ → Steps p.tables e below (s₁.setTop (entryFrame m #[(.ref a0)] 1)) tz_ := fun tz_ kz_ => castTop (ef_rm10 m a0) kz_
  obtain ⟨T31, X31, e31, st31⟩ := initO X0 hx hZ hown (hw _ (mg (i := 52) rfl)) (hw _ (mg (i := 24) rfl)) (hw _ (mg (i := 25) rfl)) e0 (g := (mkF m 1 #[.val (.ref a0)] [(.ref a0)])) rfl (by rw [hml]; rfl) rfl (hb hby d10_1) (by decide) (W := 0) (by show 2 * 0 + _ ≤ _; exact Nat.le_of_eq rfl) (by decide)
  obtain ⟨fs, hrL, hrun, hended, hW, hsame⟩ := X31.leave (v := none) (fun _ => rfl)
  refine ⟨_, _, pre0 _ ?_, hrun, hended, _, _, rfl, ?_, ⟨_, rfl⟩, hW, hsame.mono (by decide) (by decide)⟩
  · show Steps p.tables e below (s₁.setTop (mkF m 0 #[.val (.ref a0)] [])) _
    refine XS.aloadN X0.here hx rfl (hb hby d10_0) rfl rfl ?_
    show Steps p.tables e below (s₁.setTop (mkF m 1 #[.val (.ref a0)] [(.ref a0)])) _
    refine st31 _ ?_
    show Steps p.tables e below (T31.setTop (mkF m 4 #[.val (.ref a0)] [])) _
    exact X31.returnOut hx Bd.returns (hb hby d10_4) hrL
  · show Q_rm10 _ _ _ _ _  T31.heap _
    rw [e31]
    exact ⟨rfl, N0, rfl⟩
theorem d3_0 : decode jdk_43_method_3_code 0 = .ok (.iload_n 0, 1) := by decide +kernel
theorem d3_1 : decode jdk_43_method_3_code 1 = .ok (.sipush 255, 3) := by decide +kernel
theorem d3_4 : decode jdk_43_method_3_code 4 = .ok (.if_icmp .gt 7, 3) := by decide +kernel
theorem d3_7 : decode jdk_43_method_3_code 7 = .ok (.iconst 1, 1) := by decide +kernel
theorem d3_8 : decode jdk_43_method_3_code 8 = .ok (.goto 4, 3) := by decide +kernel
theorem d3_12 : decode jdk_43_method_3_code 12 = .ok (.ireturn, 1) := by decide +kernel
theorem pn_java_lang_StringLatin1 : plainName "java/lang/StringLatin1" = true := by first | (simp [plainName, overriddenIn]; done) | decide +kernel
theorem ef_rm3 (m : MethodId) (i0 : Int32) : entryFrame m #[(.int i0)] 1 = mkF m 0 #[.val (.int i0)] [] := by first | (simp [entryFrame, mkF, argsToLocals, Value.category]; done) | rfl
def Q_rm3 (Z : State) (i0 : Int32) (h0 : Heap) (n0 : Nat) (v : Option Value) (h : Heap) (L : List Loc) : Prop := v = some (.int 1) ∧ Fr n0 L ∧ h = h0
set_option maxRecDepth 65536 in
set_option maxHeartbeats 40000000 in
theorem rm3 (l : Launch) (Z : State) (av0 : Array Value) (hw : ∀ d ∈ tables_1, d.before av0 Z = true) (ws : List Jvm.Cond) (i0 : Int32) (h0 : Heap) (n0 : Nat) (Z0 : n0 ≤ h0.size) (hle : ¬ ((255 : Int32) < i0)) :
    MetFree l (⟨"java/lang/StringLatin1", "canEncode", "(C)Z"⟩ : MethodName) (head1 (Jvm.Cond.code (⟨"java/lang/StringLatin1", "canEncode", "(C)Z"⟩ : MethodName) jdk_43_method_3_code 1 (some .boolean) :: ws) ({ frames := 0, cells := 0, slots := 0, locals := 0 } : Room)) (fun a U => a = #[(.int i0)] ∧ Z.Warmed39 U.vm ∧ U.heap = h0) (fun _ _ _ _ _ => True) (fun _ U o U' => ∃ v L, o = .returned v ∧ Q_rm3 Z i0 h0 n0 v U'.heap L ∧ FrameEnd U o U' L ({ frames := 0, cells := 0, slots := 0, locals := 0 } : Room).cells ({ frames := 0, cells := 0, slots := 0, locals := 0 } : Room).slots) := by
  refine MetFree.of_bodySF (plainFor_of_name pn_java_lang_StringLatin1) hisR ?_
  intro p e s m args below meth c s₁ Bd hml0 hP hK
  obtain ⟨rfl, hZ, hh⟩ := hP
  have hx := Bd.exec
  have hby := Bd.bytes
  have hml : c.maxLocals = 1 := hml0
  have hown : s.vm.findClass "java/lang/StringLatin1" = some m.cls := findClass_of_methodNamed Bd.named
  have hnm := (name_of_methodNamed Bd.named Bd.method).1
  have X0 : Stand p l e ({ frames := 0, cells := 0, slots := 0, locals := 0 } : Room) s m #[(.int i0)] below meth c s₁ [] 0 0 := Stand.of_body Bd
  have e0 : s₁.heap = h0 := by rw [← hh, Bd.state]; rfl
  have N0 := Fr.nil n0
  have pre0 : ∀ tz_, Steps p.tables e below (s₁.setTop (mkF m 0 #[.val (.int i0)] [])) tz_ → Steps p.tables e below (s₁.setTop (entryFrame m #[(.int i0)] 1)) tz_ := fun tz_ kz_ => castTop (ef_rm3 m i0) kz_
  obtain ⟨fs, hrL, hrun, hended, hW, hsame⟩ := X0.leave (v := some (.int 1)) (fun h => by rw [Bd.returns] at h; cases h)
  refine ⟨_, _, pre0 _ ?_, hrun, hended, _, _, rfl, ?_, ⟨_, rfl⟩, hW, hsame.mono (by decide) (by decide)⟩
  · show Steps p.tables e below (s₁.setTop (mkF m 0 #[.val (.int i0)] [])) _
    refine XS.iloadN X0.here hx rfl (hb hby d3_0) rfl ?_
    refine XS.sipush X0.here hx rfl (hb hby d3_1) ?_
    show Steps p.tables e below (s₁.setTop (mkF m 4 #[.val (.int i0)] [(.int 255), (.int i0)])) _
    refine XS.icmpNo X0.here hx rfl (hb hby d3_4) rfl (flt hle).2.2.1 ?_
    show Steps p.tables e below (s₁.setTop (mkF m 7 #[.val (.int i0)] [])) _
    refine XS.iconst X0.here hx rfl (hb hby d3_7) ?_
    refine XS.goto X0.here hx rfl (pc0 := 8) (pc' := 12) rfl (hb hby d3_8) (by decide) (by decide) ?_
    show Steps p.tables e below (s₁.setTop (mkF m 12 #[.val (.int i0)] [(.int 1)])) _
    exact retN X0 hx (t := .boolean) Bd.returns (by simp) (hb hby d3_12) hrL
  · show Q_rm3 _ _ _ _ _  s₁.heap _
    rw [e0]
    exact ⟨rfl, N0, rfl⟩
theorem d4_0 : decode jdk_43_method_46_code 0 = .ok (.iconst 1, 1) := by decide +kernel
theorem d4_1 : decode jdk_43_method_46_code 1 = .ok (.newarray .byte, 2) := by decide +kernel
theorem d4_3 : decode jdk_43_method_46_code 3 = .ok (.dup, 1) := by decide +kernel
theorem d4_4 : decode jdk_43_method_46_code 4 = .ok (.iconst 0, 1) := by decide +kernel
theorem d4_5 : decode jdk_43_method_46_code 5 = .ok (.iload_n 0, 1) := by decide +kernel
theorem d4_6 : decode jdk_43_method_46_code 6 = .ok (.i2b, 1) := by decide +kernel
theorem d4_7 : decode jdk_43_method_46_code 7 = .ok (.bastore, 1) := by decide +kernel
theorem d4_8 : decode jdk_43_method_46_code 8 = .ok (.areturn, 1) := by decide +kernel
theorem ef_rm4 (m : MethodId) (i0 : Int32) : entryFrame m #[(.int i0)] 1 = mkF m 0 #[.val (.int i0)] [] := by first | (simp [entryFrame, mkF, argsToLocals, Value.category]; done) | rfl
def Q_rm4 (Z : State) (i0 : Int32) (h0 : Heap) (n0 : Nat) (v : Option Value) (h : Heap) (L : List Loc) : Prop := ∃ b : Addr, ∃ kb : ClassId, v = some (.ref b) ∧ Fr n0 L ∧ Keep h0 h [] ∧ h0.size ≤ b ∧ Arv Z h b kb .byte (1 : Int32) [(.int (i0.toInt8.toInt32))] (.int 0)
set_option maxRecDepth 65536 in
set_option maxHeartbeats 40000000 in
theorem rm4 (l : Launch) (Z : State) (av0 : Array Value) (hw : ∀ d ∈ tables_1, d.before av0 Z = true) (ws : List Jvm.Cond) (i0 : Int32) (h0 : Heap) (n0 : Nat) (Z0 : n0 ≤ h0.size) :
    MetFree l (⟨"java/lang/StringLatin1", "toBytes", "(C)[B"⟩ : MethodName) (head1 (Jvm.Cond.code (⟨"java/lang/StringLatin1", "toBytes", "(C)[B"⟩ : MethodName) jdk_43_method_46_code 1 (some (.array .byte)) :: ws) ({ frames := 0, cells := 1, slots := 1, locals := 0 } : Room)) (fun a U => a = #[(.int i0)] ∧ Z.Warmed39 U.vm ∧ U.heap = h0) (fun _ _ _ _ _ => True) (fun _ U o U' => ∃ v L, o = .returned v ∧ Q_rm4 Z i0 h0 n0 v U'.heap L ∧ FrameEnd U o U' L ({ frames := 0, cells := 1, slots := 1, locals := 0 } : Room).cells ({ frames := 0, cells := 1, slots := 1, locals := 0 } : Room).slots) := by
  refine MetFree.of_bodySF (plainFor_of_name pn_java_lang_StringLatin1) hisR ?_
  intro p e s m args below meth c s₁ Bd hml0 hP hK
  obtain ⟨rfl, hZ, hh⟩ := hP
  have hx := Bd.exec
  have hby := Bd.bytes
  have hml : c.maxLocals = 1 := hml0
  have hown : s.vm.findClass "java/lang/StringLatin1" = some m.cls := findClass_of_methodNamed Bd.named
  have hnm := (name_of_methodNamed Bd.named Bd.method).1
  have X0 : Stand p l e ({ frames := 0, cells := 1, slots := 1, locals := 0 } : Room) s m #[(.int i0)] below meth c s₁ [] 0 0 := Stand.of_body Bd
  have e0 : s₁.heap = h0 := by rw [← hh, Bd.state]; rfl
  have N0 := Fr.nil n0
  have pre0 : ∀ tz_, Steps p.tables e below (s₁.setTop (mkF m 0 #[.val (.int i0)] [])) tz_ → Steps p.tables e below (s₁.setTop (entryFrame m #[(.int i0)] 1)) tz_ := fun tz_ kz_ => castTop (ef_rm4 m i0) kz_
  have K0 : Keep h0 h0 [] := Keep.refl h0 []
  obtain ⟨T31, h31, k31, X31, e31, E31, A31, st31⟩ := newP X0 hx hZ (hw _ (mg (i := 18) rfl)) e0 (g := (mkF m 1 #[.val (.int i0)] [(.int 1)])) rfl (hb hby d4_1) rfl (by decide) (cap := 1) (by decide) (by decide) (by decide) (by decide)
  obtain ⟨b31, q31⟩ : ∃ z, z = h0.size := ⟨_, rfl⟩
  rw [← q31] at A31 st31
  have g_b31 : n0 ≤ b31 := Nat.le_trans (Nat.le_trans Z0 K0.1) (Nat.le_of_eq q31.symm)
  have sz_b31 : h0.size ≤ b31 := Nat.le_trans K0.1 (Nat.le_of_eq q31.symm)
  have V31 : Arv Z h31 b31 k31 .byte (1 : Int32) [(.int 0)] (.int 0) := (Arv.new A31 (by decide)).pad (pad_rep [] (.int 0) 1)
  have K32 := K0.ext E31
  obtain ⟨cl33, Ar33, qk33, qs33, qn33, qh33, qg33⟩ := id V31
  have hin33 : ¬ ((0 : Int32) < 0 ∨ cl33.slots.size ≤ ((0 : Int32)).toNatClampNeg) := inb_of qs33 ⟨by decide, by decide⟩
  obtain ⟨T34, h34, X34, e34, W34, st34⟩ := stB X31 hx hZ e31 Ar33 (j := (0 : Int32)) hin33 (g := (mkF m 7 #[.val (.int i0)] [(.int (i0.toInt8.toInt32)), (.int 0), (.ref b31), (.ref b31)])) rfl rfl (hb hby d4_7)
  have V34 : Arv Z h34 b31 k31 .byte (1 : Int32) [(.int ((i0.toInt8.toInt32).toInt8.toInt32))] (.int 0) := Arv.set Ar33 qk33 qs33 qn33 qh33 qg33 (fits_nar_byte _) W34 0 rfl (Nat.le_of_ble_eq_true rfl)
  rw [own_b8] at V34
  have N34 := Fr.snoc X34 N0 g_b31
  have K35 := K32.wr W34 (Or.inr sz_b31)
  obtain ⟨fs, hrL, hrun, hended, hW, hsame⟩ := X34.leave (v := some (.ref b31)) (fun h => by rw [Bd.returns] at h; cases h)
  refine ⟨_, _, pre0 _ ?_, hrun, hended, _, _, rfl, ?_, ⟨_, rfl⟩, hW, hsame.mono (by decide) (by decide)⟩
  · show Steps p.tables e below (s₁.setTop (mkF m 0 #[.val (.int i0)] [])) _
    refine XS.iconst X0.here hx rfl (hb hby d4_0) ?_
    show Steps p.tables e below (s₁.setTop (mkF m 1 #[.val (.int i0)] [(.int 1)])) _
    refine st31 _ ?_
    refine XS.dup X31.here hx rfl (hb hby d4_3) rfl rfl ?_
    show Steps p.tables e below (T31.setTop (mkF m 4 #[.val (.int i0)] [(.ref b31), (.ref b31)])) _
    refine XS.iconst X31.here hx rfl (hb hby d4_4) ?_
    refine XS.iloadN X31.here hx rfl (hb hby d4_5) rfl ?_
    show Steps p.tables e below (T31.setTop (mkF m 6 #[.val (.int i0)] [(.int i0), (.int 0), (.ref b31), (.ref b31)])) _
    refine XS.i2b X31.here hx rfl (hb hby d4_6) rfl ?_
    show Steps p.tables e below (T31.setTop (mkF m 7 #[.val (.int i0)] [(.int (i0.toInt8.toInt32)), (.int 0), (.ref b31), (.ref b31)])) _
    refine st34 _ ?_
    show Steps p.tables e below (T34.setTop (mkF m 8 #[.val (.int i0)] [(.ref b31)])) _
    exact retOut X34 hx Bd.returns rfl (Or.inr (Or.inr (Or.inr (Or.inr ⟨rfl, rfl, rfl⟩)))) (hb hby d4_8) hrL
  · show Q_rm4 _ _ _ _ _  T34.heap _
    rw [e34]
    exact ⟨b31, k31, rfl, N34, K35, sz_b31, V34⟩
theorem d5_0 : decode jdk_42_method_151_code 0 = .ok (.aload_n 0, 1) := by decide +kernel
theorem d5_1 : decode jdk_42_method_151_code 1 = .ok (.invokespecial 1, 3) := by decide +kernel
theorem d5_4 : decode jdk_42_method_151_code 4 = .ok (.aload_n 0, 1) := by decide +kernel
theorem d5_5 : decode jdk_42_method_151_code 5 = .ok (.aload_n 1, 1) := by decide +kernel
theorem d5_6 : decode jdk_42_method_151_code 6 = .ok (.putfield 9, 3) := by decide +kernel
theorem d5_9 : decode jdk_42_method_151_code 9 = .ok (.aload_n 0, 1) := by decide +kernel
theorem d5_10 : decode jdk_42_method_151_code 10 = .ok (.iload_n 2, 1) := by decide +kernel
theorem d5_11 : decode jdk_42_method_151_code 11 = .ok (.putfield 15, 3) := by decide +kernel
theorem d5_14 : decode jdk_42_method_151_code 14 = .ok (.return_, 1) := by decide +kernel
theorem ef_rm5 (m : MethodId) (a0 : Addr) (a1 : Addr) : entryFrame m #[(.ref a0), (.ref a1), (.int 0)] 3 = mkF m 0 #[.val (.ref a0), .val (.ref a1), .val (.int 0)] [] := by first | (simp [entryFrame, mkF, argsToLocals, Value.category]; done) | rfl
def Q_rm5 (Z : State) (a0 : Addr) (a1 : Addr) (h0 : Heap) (n0 : Nat) (v : Option Value) (h : Heap) (L : List Loc) : Prop := v = none ∧ Fr n0 L ∧ Keep h0 h [a0] ∧ Exa Z h a0 "java/lang/String" ∧ Fld Z h a0 "java/lang/String" "value" "[B" (.ref a1) ∧ Fld Z h a0 "java/lang/String" "coder" "B" (.int 0)
set_option maxRecDepth 65536 in
set_option maxHeartbeats 40000000 in
theorem rm5 (l : Launch) (Z : State) (av0 : Array Value) (hw : ∀ d ∈ tables_1, d.before av0 Z = true) (ws : List Jvm.Cond) (a0 : Addr) (a1 : Addr) (h0 : Heap) (n0 : Nat) (Z0 : n0 ≤ h0.size) (p0_E : Exa Z h0 a0 "java/lang/String") (p1_F : Fld Z h0 a0 "java/lang/String" "value" "[B" .null) (p2_F : Fld Z h0 a0 "java/lang/String" "coder" "B" (.int 0)) (p3_g : n0 ≤ a0) :
    MetFree l (⟨"java/lang/String", "<init>", "([BB)V"⟩ : MethodName) (head1 (Jvm.Cond.code (⟨"java/lang/String", "<init>", "([BB)V"⟩ : MethodName) jdk_42_method_151_code 3 none :: ws) ({ frames := 1, cells := 0, slots := 0, locals := 12 } : Room)) (fun a U => a = #[(.ref a0), (.ref a1), (.int 0)] ∧ Z.Warmed39 U.vm ∧ U.heap = h0) (fun _ _ _ _ _ => True) (fun _ U o U' => ∃ v L, o = .returned v ∧ Q_rm5 Z a0 a1 h0 n0 v U'.heap L ∧ FrameEnd U o U' L ({ frames := 1, cells := 0, slots := 0, locals := 12 } : Room).cells ({ frames := 1, cells := 0, slots := 0, locals := 12 } : Room).slots) := by
  refine MetFree.of_bodySF (plainFor_of_name pn_java_lang_String) hisR ?_
  intro p e s m args below meth c s₁ Bd hml0 hP hK
  obtain ⟨rfl, hZ, hh⟩ := hP
  have hx := Bd.exec
  have hby := Bd.bytes
  have hml : c.maxLocals = 3 := hml0
  have hown : s.vm.findClass "java/lang/String" = some m.cls := findClass_of_methodNamed Bd.named
  have hnm := (name_of_methodNamed Bd.named Bd.method).1
  have X0 : Stand p l e ({ frames := 1, cells := 0, slots := 0, locals := 12 } : Room) s m #[(.ref a0), (.ref a1), (.int 0)] below meth c s₁ [] 0 0 := Stand.of_body Bd
  have e0 : s₁.heap = h0 := by rw [← hh, Bd.state]; rfl
  have N0 := Fr.nil n0
  have pre0 : ∀ tz_, Steps p.tables e below (s₁.setTop (mkF m 0 #[.val (.ref a0), .val (.ref a1), .val (.int 0)] [])) tz_ → Steps p.tables e below (s₁.setTop (entryFrame m #[(.ref a0), (.ref a1), (.int 0)] 3)) tz_ := fun tz_ kz_ => castTop (ef_rm5 m a0 a1) kz_
  have K0 : Keep h0 h0 [a0] := Keep.refl h0 [a0]
  obtain ⟨T31, X31, e31, st31⟩ := initO X0 hx hZ hown (hw _ (mg (i := 23) rfl)) (hw _ (mg (i := 24) rfl)) (hw _ (mg (i := 25) rfl)) e0 (g := (mkF m 1 #[.val (.ref a0), .val (.ref a1), .val (.int 0)] [(.ref a0)])) rfl (by rw [hml]; rfl) rfl (hb hby d5_1) (by decide) (W := 0) (by show 2 * 0 + _ ≤ _; exact Nat.le_of_eq rfl) (by decide)
  obtain ⟨T32, h32, X32, e32, W32, st32⟩ := putF X31 hx hZ hown (host := "") (Or.inl (hw _ (mg (i := 26) rfl))) Via.refl e31 p1_F p0_E (Or.inr ⟨(hw _ (mg (i := 27) rfl)), rfl, hnm⟩) (hw _ (mg (i := 14) rfl)) (ty := (.array .byte)) (by decide) rfl rfl (g := (mkF m 6 #[.val (.ref a0), .val (.ref a1), .val (.int 0)] [(.ref a1), (.ref a0)])) rfl rfl (hb hby d5_6)
  have Fw32 : Fld Z h32 a0 "java/lang/String" "value" "[B" (.ref a1) := p1_F.same W32
  have N32 := Fr.snoc X32 N0 p3_g
  have K33 := K0.wr W32 (Or.inl (List.mem_of_getElem? (i := 0) rfl))
  have f34 := (p2_F.other W32 (Or.inr (slot_ne (Or.inr (hw _ (mg (i := 29) rfl))) (Or.inr (hw _ (mg (i := 27) rfl))) (by decide) (t := .byte) (t' := (.array .byte)) (by decide) (by decide))))
  have f35 := (p0_E.wr W32)
  obtain ⟨T36, h36, X36, e36, W36, st36⟩ := putF X32 hx hZ hown (host := "") (Or.inl (hw _ (mg (i := 28) rfl))) Via.refl e32 f34 f35 (Or.inr ⟨(hw _ (mg (i := 29) rfl)), rfl, hnm⟩) (hw _ (mg (i := 14) rfl)) (ty := .byte) (by decide) rfl rfl (g := (mkF m 11 #[.val (.ref a0), .val (.ref a1), .val (.int 0)] [(.int 0), (.ref a0)])) rfl rfl (hb hby d5_11)
  have Fw36 : Fld Z h36 a0 "java/lang/String" "coder" "B" (.int 0) := f34.same W36
  have N36 := Fr.snoc X36 N32 p3_g
  have K37 := K33.wr W36 (Or.inl (List.mem_of_getElem? (i := 0) rfl))
  obtain ⟨fs, hrL, hrun, hended, hW, hsame⟩ := X36.leave (v := none) (fun _ => rfl)
  have f38 := (f35.wr W36)
  have f39 := (Fw32.other W36 (Or.inr (slot_ne (Or.inr (hw _ (mg (i := 27) rfl))) (Or.inr (hw _ (mg (i := 29) rfl))) (by decide) (t := (.array .byte)) (t' := .byte) (by decide) (by decide))))
  refine ⟨_, _, pre0 _ ?_, hrun, hended, _, _, rfl, ?_, ⟨_, rfl⟩, hW, hsame.mono (by decide) (by decide)⟩
  · show Steps p.tables e below (s₁.setTop (mkF m 0 #[.val (.ref a0), .val (.ref a1), .val (.int 0)] [])) _
    refine XS.aloadN X0.here hx rfl (hb hby d5_0) rfl rfl ?_
    show Steps p.tables e below (s₁.setTop (mkF m 1 #[.val (.ref a0), .val (.ref a1), .val (.int 0)] [(.ref a0)])) _
    refine st31 _ ?_
    refine XS.aloadN X31.here hx rfl (hb hby d5_4) rfl rfl ?_
    show Steps p.tables e below (T31.setTop (mkF m 5 #[.val (.ref a0), .val (.ref a1), .val (.int 0)] [(.ref a0)])) _
    refine XS.aloadN X31.here hx rfl (hb hby d5_5) rfl rfl ?_
    show Steps p.tables e below (T31.setTop (mkF m 6 #[.val (.ref a0), .val (.ref a1), .val (.int 0)] [(.ref a1), (.ref a0)])) _
    refine st32 _ ?_
    refine XS.aloadN X32.here hx rfl (hb hby d5_9) rfl rfl ?_
    refine XS.iloadN X32.here hx rfl (hb hby d5_10) rfl ?_
    show Steps p.tables e below (T32.setTop (mkF m 11 #[.val (.ref a0), .val (.ref a1), .val (.int 0)] [(.int 0), (.ref a0)])) _
    refine st36 _ ?_
    show Steps p.tables e below (T36.setTop (mkF m 14 #[.val (.ref a0), .val (.ref a1), .val (.int 0)] [])) _
    exact X36.returnOut hx Bd.returns (hb hby d5_14) hrL
  · show Q_rm5 _ _ _ _ _ _  T36.heap _
    rw [e36]
    exact ⟨rfl, N36, K37, f38, f39, Fw36⟩
theorem d2_0 : decode jdk_42_method_139_code 0 = .ok (.getstatic 38, 3) := by decide +kernel
theorem d2_3 : decode jdk_42_method_139_code 3 = .ok (.ifCond .eq 23, 3) := by decide +kernel
theorem d2_6 : decode jdk_42_method_139_code 6 = .ok (.iload_n 0, 1) := by decide +kernel
theorem d2_7 : decode jdk_42_method_139_code 7 = .ok (.invokestatic 1015, 3) := by decide +kernel
theorem pd_2 : parseMethodDescriptor "(C)Z" = some ⟨[.char], some .boolean⟩ := by decide +kernel
theorem d2_10 : decode jdk_42_method_139_code 10 = .ok (.ifCond .eq 16, 3) := by decide +kernel
theorem d2_13 : decode jdk_42_method_139_code 13 = .ok (.new 10, 3) := by decide +kernel
theorem d2_16 : decode jdk_42_method_139_code 16 = .ok (.dup, 1) := by decide +kernel
theorem d2_17 : decode jdk_42_method_139_code 17 = .ok (.iload_n 0, 1) := by decide +kernel
theorem d2_18 : decode jdk_42_method_139_code 18 = .ok (.invokestatic 1018, 3) := by decide +kernel
theorem pd_3 : parseMethodDescriptor "(C)[B" = some ⟨[.char], some (.array .byte)⟩ := by decide +kernel
theorem d2_21 : decode jdk_42_method_139_code 21 = .ok (.iconst 0, 1) := by decide +kernel
theorem d2_22 : decode jdk_42_method_139_code 22 = .ok (.invokespecial 209, 3) := by decide +kernel
theorem pd_4 : parseMethodDescriptor "([BB)V" = some ⟨[(.array .byte), .byte], none⟩ := by decide +kernel
theorem d2_25 : decode jdk_42_method_139_code 25 = .ok (.areturn, 1) := by decide +kernel
theorem ef_rm2 (m : MethodId) (i0 : Int32) : entryFrame m #[(.int i0)] 1 = mkF m 0 #[.val (.int i0)] [] := by first | (simp [entryFrame, mkF, argsToLocals, Value.category]; done) | rfl
def Q_rm2 (Z : State) (i0 : Int32) (cs : Int32) (h0 : Heap) (n0 : Nat) (v : Option Value) (h : Heap) (L : List Loc) : Prop := ∃ b : Addr, ∃ vb : Addr, ∃ kb : ClassId, v = some (.ref b) ∧ Fr n0 L ∧ Keep h0 h [] ∧ h0.size ≤ b ∧ h0.size ≤ vb ∧ b ≠ vb ∧ Exa Z h b "java/lang/String" ∧ Fld Z h b "java/lang/String" "value" "[B" (.ref vb) ∧ Fld Z h b "java/lang/String" "coder" "B" (.int 0) ∧ Arv Z h vb kb .byte (1 : Int32) [(.int (i0.toInt8.toInt32))] (.int 0)
set_option maxRecDepth 65536 in
set_option maxHeartbeats 40000000 in
theorem rm2 (l : Launch) (Z : State) (av0 : Array Value) (hw : ∀ d ∈ tables_1, d.before av0 Z = true) (ws : List Jvm.Cond) (i0 : Int32) (cs : Int32) (h0 : Heap) (n0 : Nat) (Z0 : n0 ≤ h0.size) (p0_O : Old Z n0 h0) (p1_S : Sta Z Z.heap "java/lang/String" "COMPACT_STRINGS" "Z" (.int cs)) (hcs : ¬ (cs = (0 : Int32))) (hle : ¬ ((255 : Int32) < i0)) :
    MetFree l (⟨"java/lang/String", "valueOf", "(C)Ljava/lang/String;"⟩ : MethodName) (head1 (Jvm.Cond.code (⟨"java/lang/String", "valueOf", "(C)Ljava/lang/String;"⟩ : MethodName) jdk_42_method_139_code 1 (some (.object "java/lang/String")) :: ws) ({ frames := 2, cells := 2, slots := 5, locals := 27 } : Room)) (fun a U => a = #[(.int i0)] ∧ Z.Warmed39 U.vm ∧ U.heap = h0) (fun _ _ _ _ _ => True) (fun _ U o U' => ∃ v L, o = .returned v ∧ Q_rm2 Z i0 cs h0 n0 v U'.heap L ∧ FrameEnd U o U' L ({ frames := 2, cells := 2, slots := 5, locals := 27 } : Room).cells ({ frames := 2, cells := 2, slots := 5, locals := 27 } : Room).slots) := by
  refine MetFree.of_bodySF (plainFor_of_name pn_java_lang_String) hisR ?_
  intro p e s m args below meth c s₁ Bd hml0 hP hK
  obtain ⟨rfl, hZ, hh⟩ := hP
  have hx := Bd.exec
  have hby := Bd.bytes
  have hml : c.maxLocals = 1 := hml0
  have hown : s.vm.findClass "java/lang/String" = some m.cls := findClass_of_methodNamed Bd.named
  have hnm := (name_of_methodNamed Bd.named Bd.method).1
  have X0 : Stand p l e ({ frames := 2, cells := 2, slots := 5, locals := 27 } : Room) s m #[(.int i0)] below meth c s₁ [] 0 0 := Stand.of_body Bd
  have e0 : s₁.heap = h0 := by rw [← hh, Bd.state]; rfl
  have N0 := Fr.nil n0
  have pre0 : ∀ tz_, Steps p.tables e below (s₁.setTop (mkF m 0 #[.val (.int i0)] [])) tz_ → Steps p.tables e below (s₁.setTop (entryFrame m #[(.int i0)] 1)) tz_ := fun tz_ kz_ => castTop (ef_rm2 m i0) kz_
  have K0 : Keep h0 h0 [] := Keep.refl h0 []
  obtain ⟨T31, X31, e31, st31⟩ := getS2 X0 hx hZ hown (host := "") (Or.inl (hw _ (mg (i := 8) rfl))) Via.refl e0 (p1_S.ext p0_O.2) (g := (mkF m 0 #[.val (.int i0)] [])) rfl (hb hby d2_0)
  -- pc 7: StringLatin1.canEncode
  obtain ⟨_, _, ⟨T32, L32, k32, n32⟩, -, X32, ⟨Lc32, hQ32, l32, y32, z32⟩, st32⟩ := Jvm.LawKit.callS X31 hx (y := (⟨"java/lang/StringLatin1", "canEncode", "(C)Z"⟩ : MethodName)) hown (mvT hZ (hw _ (mg (i := 9) rfl))) (mvT hZ (hw _ (mg (i := 10) rfl))) (mvT hZ (hw _ (mg (i := 11) rfl))) (mvT hZ (hw _ (mg (i := 12) rfl))) (by decide) (backOf (W := 0) (rm3 l Z av0 hw [] i0 h0 n0 (own_le p0_O) (hle : ¬ ((255 : Int32) < i0))) hZ (hw _ (mg (i := 12) rfl)) (hw _ (mg (i := 11) rfl)) (by decide) (by decide)) (g := (mkF m 7 #[.val (.int i0)] [(.int i0)])) rfl (by rw [hml]; rfl) (argsL := [(.int i0)]) (rest := []) (lenOf pd_2 rfl) rfl (by show 2 * 0 + _ ≤ _; exact Nat.le_of_eq rfl) (hb hby d2_7) (fun vmx hWx => ⟨rfl, e31, (by decide : 0 + 0 ≤ _), (by decide : 0 + 0 ≤ _)⟩)
  dsimp only [Pt.U, Pt.locs, Pt.cells, Pt.slots] at X32 l32 y32 z32 st32 hQ32
  subst l32 y32 z32
  obtain ⟨rv32, Nq32, Kq32⟩ := hQ32
  subst rv32
  have N32 := Fr.app N0 Nq32
  obtain ⟨T33, h33, X33, e33, E33, A33, D33, -, st33⟩ := newO X32 hx hZ hown (hw _ (mg (i := 13) rfl)) (hw _ (mg (i := 14) rfl)) (hw _ (mg (i := 6) rfl)) Kq32 (g := (mkF m 13 #[.val (.int i0)] [])) rfl (hb hby d2_13) (by decide) (by decide)
  obtain ⟨b33, q33⟩ : ∃ z, z = h0.size := ⟨_, rfl⟩
  rw [← q33] at A33 D33 st33
  have g_b33 : n0 ≤ b33 := Nat.le_trans (own_le p0_O) (Nat.le_of_eq q33.symm)
  have sz_b33 : h0.size ≤ b33 := Nat.le_trans K0.1 (Nat.le_of_eq q33.symm)
  have K34 := K0.ext E33
  have O34 := p0_O.ext E33
  have F33_value : Fld Z h33 b33 "java/lang/String" "value" "[B" .null := D33 (Or.inr (hw _ (mg (i := 27) rfl))) (ty := (.array .byte)) (by decide)
  have F33_coder : Fld Z h33 b33 "java/lang/String" "coder" "B" (.int 0) := D33 (Or.inr (hw _ (mg (i := 29) rfl))) (ty := .byte) (by decide)
  -- pc 18: StringLatin1.toBytes
  obtain ⟨_, _, ⟨T35, L35, k35, n35⟩, -, X35, ⟨Lc35, hQ35, l35, y35, z35⟩, st35⟩ := Jvm.LawKit.callS X33 hx (y := (⟨"java/lang/StringLatin1", "toBytes", "(C)[B"⟩ : MethodName)) hown (mvT hZ (hw _ (mg (i := 15) rfl))) (mvT hZ (hw _ (mg (i := 16) rfl))) (mvT hZ (hw _ (mg (i := 11) rfl))) (mvT hZ (hw _ (mg (i := 17) rfl))) (by decide) (backOf (W := 2) (rm4 l Z av0 hw [] i0 h33 n0 (own_le O34) ) hZ (hw _ (mg (i := 17) rfl)) (hw _ (mg (i := 11) rfl)) (by decide) (by decide)) (g := (mkF m 18 #[.val (.int i0)] [(.int i0), (.ref b33), (.ref b33)])) rfl (by rw [hml]; rfl) (argsL := [(.int i0)]) (rest := [(.ref b33), (.ref b33)]) (lenOf pd_3 rfl) rfl (by show 2 * 0 + _ ≤ _; exact Nat.le_of_eq rfl) (hb hby d2_18) (fun vmx hWx => ⟨rfl, e33, (by decide : 1 + 1 ≤ _), (by decide : 4 + 1 ≤ _)⟩)
  dsimp only [Pt.U, Pt.locs, Pt.cells, Pt.slots] at X35 l35 y35 z35 st35 hQ35
  subst l35 y35 z35
  obtain ⟨b_35, kb_35, rv35, Nq35, Kq35, u35_0, u35_1⟩ := hQ35
  subst rv35
  have N35 := Fr.app N32 Nq35
  have g_b_35 : n0 ≤ b_35 := Nat.le_trans (own_le O34) u35_0
  have sz_b_35 : h0.size ≤ b_35 := Nat.le_trans K34.1 u35_0
  have K36 := K34.trans Kq35 all0
  have O36 := O34.keep Kq35 all0
  have f37 := (A33.keep Kq35)
  have f38 := (F33_value.keep Kq35 nin0)
  have f39 := (F33_coder.keep Kq35 nin0)
  -- pc 22: String.init
  obtain ⟨_, _, ⟨T40, L40, k40, n40⟩, -, X40, ⟨Lc40, hQ40, l40, y40, z40⟩, st40⟩ := X35.specialBack hx (y := (⟨"java/lang/String", "<init>", "([BB)V"⟩ : MethodName)) rfl hown (mvT hZ (hw _ (mg (i := 19) rfl))) (mvT hZ (hw _ (mg (i := 20) rfl))) (mvT hZ (hw _ (mg (i := 22) rfl))) (by decide) (backOf (W := 1) (rm5 l Z av0 hw [] b33 b_35 T35.heap n0 (own_le O36) f37 f38 f39 g_b33) hZ (hw _ (mg (i := 22) rfl)) (hw _ (mg (i := 6) rfl)) (by decide) (by decide)) (g := (mkF m 22 #[.val (.int i0)] [(.int 0), (.ref b_35), (.ref b33), (.ref b33)])) rfl (by rw [hml]; rfl) (Steps.refl _) (a := b33) (argsL := [(.ref b_35), (.int 0)]) (rest := [(.ref b33)]) (lenOf pd_4 rfl) rfl (by show 2 * 0 + _ ≤ _; exact Nat.le_of_eq rfl) (hb hby d2_22) (fun vmx hWx => ⟨rfl, rfl, (by decide : 2 + 0 ≤ _), (by decide : 5 + 0 ≤ _)⟩)
  dsimp only [Pt.U, Pt.locs, Pt.cells, Pt.slots] at X40 l40 y40 z40 st40 hQ40
  subst l40 y40 z40
  obtain ⟨rv40, Nq40, Kq40, u40_0, u40_1, u40_2⟩ := hQ40
  subst rv40
  have N40 := Fr.app N35 Nq40
  have K41 := K36.trans Kq40 (allS (Or.inr sz_b33) all0)
  have O41 := O36.keep Kq40 (allS g_b33 all0)
  obtain ⟨fs, hrL, hrun, hended, hW, hsame⟩ := X40.leave (v := some (.ref b33)) (fun h => by rw [Bd.returns] at h; cases h)
  have ne42 : b33 ≠ b_35 := (Nat.ne_of_lt (Nat.lt_of_lt_of_le A33.lt u35_0))
  have f43 := (u35_1.keep Kq40 (ninS (Ne.symm ne42) nin0))
  refine ⟨_, _, pre0 _ ?_, hrun, hended, _, _, rfl, ?_, ⟨_, rfl⟩, hW, hsame.mono (by decide) (by decide)⟩
  · show Steps p.tables e below (s₁.setTop (mkF m 0 #[.val (.int i0)] [])) _
    refine st31 _ ?_
    show Steps p.tables e below (T31.setTop (mkF m 3 #[.val (.int i0)] [(.int cs)])) _
    refine XS.ifNo X31.here hx rfl (hb hby d2_3) rfl ((if0 _ _).trans (feq hcs).1) ?_
    refine XS.iloadN X31.here hx rfl (hb hby d2_6) rfl ?_
    show Steps p.tables e below (T31.setTop (mkF m 7 #[.val (.int i0)] [(.int i0)])) _
    refine st32 _ ?_
    show Steps p.tables e below (T32.setTop (mkF m 10 #[.val (.int i0)] [(.int 1)])) _
    refine XS.ifNo X32.here hx rfl (hb hby d2_10) rfl ((if0 _ _).trans (feq (by decide : ¬ ((1 : Int32) = (0 : Int32)))).1) ?_
    show Steps p.tables e below (T32.setTop (mkF m 13 #[.val (.int i0)] [])) _
    refine st33 _ ?_
    refine XS.dup X33.here hx rfl (hb hby d2_16) rfl rfl ?_
    show Steps p.tables e below (T33.setTop (mkF m 17 #[.val (.int i0)] [(.ref b33), (.ref b33)])) _
    refine XS.iloadN X33.here hx rfl (hb hby d2_17) rfl ?_
    show Steps p.tables e below (T33.setTop (mkF m 18 #[.val (.int i0)] [(.int i0), (.ref b33), (.ref b33)])) _
    refine st35 _ ?_
    refine XS.iconst X35.here hx rfl (hb hby d2_21) ?_
    show Steps p.tables e below (T35.setTop (mkF m 22 #[.val (.int i0)] [(.int 0), (.ref b_35), (.ref b33), (.ref b33)])) _
    refine st40.trans ?_
    show Steps p.tables e below (T40.setTop (mkF m 25 #[.val (.int i0)] [(.ref b33)])) _
    exact retOut X40 hx Bd.returns rfl (Or.inr (Or.inr (Or.inr (Or.inr ⟨rfl, rfl, rfl⟩)))) (hb hby d2_25) hrL
  · show Q_rm2 _ _ _ _ _ _  T40.heap _
    exact ⟨b33, b_35, kb_35, rfl, N40, K41, sz_b33, sz_b_35, ne42, u40_0, u40_1, u40_2, f43⟩
theorem d41_0 : decode jdk_52_method_21_code 0 = .ok (.iconst 0, 1) := by decide +kernel
theorem d41_1 : decode jdk_52_method_21_code 1 = .ok (.istore 5, 2) := by decide +kernel
theorem d41_3 : decode jdk_52_method_21_code 3 = .ok (.iload 5, 2) := by decide +kernel
theorem d41_5 : decode jdk_52_method_21_code 5 = .ok (.iload 4, 2) := by decide +kernel
theorem d41_7 : decode jdk_52_method_21_code 7 = .ok (.if_icmp .ge 37, 3) := by decide +kernel
theorem d41_10 : decode jdk_52_method_21_code 10 = .ok (.aload_n 0, 1) := by decide +kernel
theorem d41_11 : decode jdk_52_method_21_code 11 = .ok (.iload_n 1, 1) := by decide +kernel
theorem d41_12 : decode jdk_52_method_21_code 12 = .ok (.caload, 1) := by decide +kernel
theorem d41_13 : decode jdk_52_method_21_code 13 = .ok (.istore 6, 2) := by decide +kernel
theorem d41_15 : decode jdk_52_method_21_code 15 = .ok (.iload 6, 2) := by decide +kernel
theorem d41_17 : decode jdk_52_method_21_code 17 = .ok (.sipush 255, 3) := by decide +kernel
theorem d41_20 : decode jdk_52_method_21_code 20 = .ok (.if_icmp .le 6, 3) := by decide +kernel
theorem d41_26 : decode jdk_52_method_21_code 26 = .ok (.aload_n 2, 1) := by decide +kernel
theorem d41_27 : decode jdk_52_method_21_code 27 = .ok (.iload_n 3, 1) := by decide +kernel
theorem d41_28 : decode jdk_52_method_21_code 28 = .ok (.iload 6, 2) := by decide +kernel
theorem d41_30 : decode jdk_52_method_21_code 30 = .ok (.i2b, 1) := by decide +kernel
theorem d41_31 : decode jdk_52_method_21_code 31 = .ok (.bastore, 1) := by decide +kernel
theorem d41_32 : decode jdk_52_method_21_code 32 = .ok (.iinc 1 1, 3) := by decide +kernel
theorem d41_35 : decode jdk_52_method_21_code 35 = .ok (.iinc 3 1, 3) := by decide +kernel
theorem d41_38 : decode jdk_52_method_21_code 38 = .ok (.iinc 5 1, 3) := by decide +kernel
theorem d41_41 : decode jdk_52_method_21_code 41 = .ok (.goto (-38), 3) := by decide +kernel
theorem d41_44 : decode jdk_52_method_21_code 44 = .ok (.iload 4, 2) := by decide +kernel
theorem d41_46 : decode jdk_52_method_21_code 46 = .ok (.ireturn, 1) := by decide +kernel
theorem pn_java_lang_StringUTF16 : plainName "java/lang/StringUTF16" = true := by first | (simp [plainName, overriddenIn]; done) | decide +kernel
theorem ef_cmp2 (m : MethodId) (a0 : Addr) (a2 : Addr) : entryFrame m #[(.ref a0), (.int 0), (.ref a2), (.int 0), (.int 2)] 7 = mkF m 0 #[.val (.ref a0), .val (.int 0), .val (.ref a2), .val (.int 0), .val (.int 2), .unset, .unset] [] := by first | (simp [entryFrame, mkF, argsToLocals, Value.category]; done) | rfl
def Q_cmp2 (Z : State) (a0 : Addr) (a2 : Addr) (c0 : Int32) (c1 : Int32) (k0 : ClassId) (k2 : ClassId) (h0 : Heap) (n0 : Nat) (v : Option Value) (h : Heap) (L : List Loc) : Prop := v = some (.int 2) ∧ Fr n0 L ∧ Keep h0 h [a2] ∧ Arv Z h a2 k2 .byte (2 : Int32) [(.int (c0.toInt8.toInt32)), (.int (c1.toInt8.toInt32))] (.int 0)
set_option maxRecDepth 65536 in
set_option maxHeartbeats 40000000 in
theorem cmp2 (l : Launch) (Z : State) (av0 : Array Value) (hw : ∀ d ∈ tables_1, d.before av0 Z = true) (ws : List Jvm.Cond) (a0 : Addr) (a2 : Addr) (c0 : Int32) (c1 : Int32) (k0 : ClassId) (k2 : ClassId) (h0 : Heap) (n0 : Nat) (Z0 : n0 ≤ h0.size) (p0_A : Arv Z h0 a0 k0 .char (2 : Int32) [(.int c0), (.int c1)] (.int 0)) (p1_A : Arv Z h0 a2 k2 .byte (2 : Int32) [(.int 0), (.int 0)] (.int 0)) (p2_ne : a0 ≠ a2) (p3_g : n0 ≤ a2) (hc_0 : ¬ ((255 : Int32) < c0)) (hc_1 : ¬ ((255 : Int32) < c1)) :
    MetFree l (⟨"java/lang/StringUTF16", "compress", "([CI[BII)I"⟩ : MethodName) (head1 (Jvm.Cond.code (⟨"java/lang/StringUTF16", "compress", "([CI[BII)I"⟩ : MethodName) jdk_52_method_21_code 7 (some .int) :: ws) ({ frames := 0, cells := 0, slots := 0, locals := 0 } : Room)) (fun a U => a = #[(.ref a0), (.int 0), (.ref a2), (.int 0), (.int 2)] ∧ Z.Warmed39 U.vm ∧ U.heap = h0) (fun _ _ _ _ _ => True) (fun _ U o U' => ∃ v L, o = .returned v ∧ Q_cmp2 Z a0 a2 c0 c1 k0 k2 h0 n0 v U'.heap L ∧ FrameEnd U o U' L ({ frames := 0, cells := 0, slots := 0, locals := 0 } : Room).cells ({ frames := 0, cells := 0, slots := 0, locals := 0 } : Room).slots) := by
  refine MetFree.of_bodySF (plainFor_of_name pn_java_lang_StringUTF16) hisR ?_
  intro p e s m args below meth c s₁ Bd hml0 hP hK
  obtain ⟨rfl, hZ, hh⟩ := hP
  have hx := Bd.exec
  have hby := Bd.bytes
  have hml : c.maxLocals = 7 := hml0
  have hown : s.vm.findClass "java/lang/StringUTF16" = some m.cls := findClass_of_methodNamed Bd.named
  have hnm := (name_of_methodNamed Bd.named Bd.method).1
  have X0 : Stand p l e ({ frames := 0, cells := 0, slots := 0, locals := 0 } : Room) s m #[(.ref a0), (.int 0), (.ref a2), (.int 0), (.int 2)] below meth c s₁ [] 0 0 := Stand.of_body Bd
  have e0 : s₁.heap = h0 := by rw [← hh, Bd.state]; rfl
  have N0 := Fr.nil n0
  have pre0 : ∀ tz_, Steps p.tables e below (s₁.setTop (mkF m 0 #[.val (.ref a0), .val (.int 0), .val (.ref a2), .val (.int 0), .val (.int 2), .unset, .unset] [])) tz_ → Steps p.tables e below (s₁.setTop (entryFrame m #[(.ref a0), (.int 0), (.ref a2), (.int 0), (.int 2)] 7)) tz_ := fun tz_ kz_ => castTop (ef_cmp2 m a0 a2) kz_
  have K0 : Keep h0 h0 [a2] := Keep.refl h0 [a2]
  obtain ⟨cl31, Ar31, qk31, qs31, qn31, qh31, qg31⟩ := id p0_A
  have hin31 : ¬ ((0 : Int32) < 0 ∨ cl31.slots.size ≤ ((0 : Int32)).toNatClampNeg) := inb_of qs31 ⟨by decide, by decide⟩
  have hat31 : cl31.slots[((0 : Int32)).toNatClampNeg]? = some (.int c0) := qh31.at hin31 rfl
  obtain ⟨cl32, Ar32, qk32, qs32, qn32, qh32, qg32⟩ := id p1_A
  have hin32 : ¬ ((0 : Int32) < 0 ∨ cl32.slots.size ≤ ((0 : Int32)).toNatClampNeg) := inb_of qs32 ⟨by decide, by decide⟩
  obtain ⟨T33, h33, X33, e33, W33, st33⟩ := stB X0 hx hZ e0 Ar32 (j := (0 : Int32)) hin32 (g := (mkF m 31 #[.val (.ref a0), .val (.int 0), .val (.ref a2), .val (.int 0), .val (.int 2), .val (.int 0), .val (.int c0)] [(.int (c0.toInt8.toInt32)), (.int 0), (.ref a2)])) rfl rfl (hb hby d41_31)
  have V33 : Arv Z h33 a2 k2 .byte (2 : Int32) [(.int ((c0.toInt8.toInt32).toInt8.toInt32)), (.int 0)] (.int 0) := Arv.set Ar32 qk32 qs32 qn32 qh32 qg32 (fits_nar_byte _) W33 0 rfl (Nat.le_of_ble_eq_true rfl)
  rw [own_b8] at V33
  have N33 := Fr.snoc X33 N0 p3_g
  have K34 := K0.wr W33 (Or.inl (List.mem_of_getElem? (i := 0) rfl))
  have f35 := (p0_A.other W33 p2_ne)
  obtain ⟨cl36, Ar36, qk36, qs36, qn36, qh36, qg36⟩ := id f35
  have hin36 : ¬ ((1 : Int32) < 0 ∨ cl36.slots.size ≤ ((1 : Int32)).toNatClampNeg) := inb_of qs36 ⟨by decide, by decide⟩
  have hat36 : cl36.slots[((1 : Int32)).toNatClampNeg]? = some (.int c1) := qh36.at hin36 rfl
  obtain ⟨cl37, Ar37, qk37, qs37, qn37, qh37, qg37⟩ := id V33
  have hin37 : ¬ ((1 : Int32) < 0 ∨ cl37.slots.size ≤ ((1 : Int32)).toNatClampNeg) := inb_of qs37 ⟨by decide, by decide⟩
  obtain ⟨T38, h38, X38, e38, W38, st38⟩ := stB X33 hx hZ e33 Ar37 (j := (1 : Int32)) hin37 (g := (mkF m 31 #[.val (.ref a0), .val (.int 1), .val (.ref a2), .val (.int 1), .val (.int 2), .val (.int 1), .val (.int c1)] [(.int (c1.toInt8.toInt32)), (.int 1), (.ref a2)])) rfl rfl (hb hby d41_31)
  have V38 : Arv Z h38 a2 k2 .byte (2 : Int32) [(.int (c0.toInt8.toInt32)), (.int ((c1.toInt8.toInt32).toInt8.toInt32))] (.int 0) := Arv.set Ar37 qk37 qs37 qn37 qh37 qg37 (fits_nar_byte _) W38 1 rfl (Nat.le_of_ble_eq_true rfl)
  rw [own_b8] at V38
  have N38 := Fr.snoc X38 N33 p3_g
  have K39 := K34.wr W38 (Or.inl (List.mem_of_getElem? (i := 0) rfl))
  obtain ⟨fs, hrL, hrun, hended, hW, hsame⟩ := X38.leave (v := some (.int 2)) (fun h => by rw [Bd.returns] at h; cases h)
  refine ⟨_, _, pre0 _ ?_, hrun, hended, _, _, rfl, ?_, ⟨_, rfl⟩, hW, hsame.mono (by decide) (by decide)⟩
  · show Steps p.tables e below (s₁.setTop (mkF m 0 #[.val (.ref a0), .val (.int 0), .val (.ref a2), .val (.int 0), .val (.int 2), .unset, .unset] [])) _
    refine XS.iconst X0.here hx rfl (hb hby d41_0) ?_
    refine XS.istore X0.here hx rfl (hb hby d41_1) rfl (l' := #[.val (.ref a0), .val (.int 0), .val (.ref a2), .val (.int 0), .val (.int 2), .val (.int 0), .unset]) rfl ?_
    refine XS.iload X0.here hx rfl (hb hby d41_3) rfl ?_
    show Steps p.tables e below (s₁.setTop (mkF m 5 #[.val (.ref a0), .val (.int 0), .val (.ref a2), .val (.int 0), .val (.int 2), .val (.int 0), .unset] [(.int 0)])) _
    refine XS.iload X0.here hx rfl (hb hby d41_5) rfl ?_
    show Steps p.tables e below (s₁.setTop (mkF m 7 #[.val (.ref a0), .val (.int 0), .val (.ref a2), .val (.int 0), .val (.int 2), .val (.int 0), .unset] [(.int 2), (.int 0)])) _
    refine XS.icmpNo X0.here hx rfl (hb hby d41_7) rfl (tlt (by decide : (0 : Int32) < (2 : Int32))).2.1 ?_
    refine XS.aloadN X0.here hx rfl (hb hby d41_10) rfl rfl ?_
    refine XS.iloadN X0.here hx rfl (hb hby d41_11) rfl ?_
    show Steps p.tables e below (s₁.setTop (mkF m 12 #[.val (.ref a0), .val (.int 0), .val (.ref a2), .val (.int 0), .val (.int 2), .val (.int 0), .unset] [(.int 0), (.ref a0)])) _
    refine X0.caload hx (j := (0 : Int32)) (v := (.int c0)) (by rw [e0]; exact Ar31.1) (State.isArrayOf_alike hZ.alike Ar31.2.1) Ar31.2.2 hin31 hat31 (g := (mkF m 12 #[.val (.ref a0), .val (.int 0), .val (.ref a2), .val (.int 0), .val (.int 2), .val (.int 0), .unset] [(.int 0), (.ref a0)])) rfl rfl (hb hby d41_12) _ ?_
    refine XS.istore X0.here hx rfl (hb hby d41_13) rfl (l' := #[.val (.ref a0), .val (.int 0), .val (.ref a2), .val (.int 0), .val (.int 2), .val (.int 0), .val (.int c0)]) rfl ?_
    refine XS.iload X0.here hx rfl (hb hby d41_15) rfl ?_
    refine XS.sipush X0.here hx rfl (hb hby d41_17) ?_
    show Steps p.tables e below (s₁.setTop (mkF m 20 #[.val (.ref a0), .val (.int 0), .val (.ref a2), .val (.int 0), .val (.int 2), .val (.int 0), .val (.int c0)] [(.int 255), (.int c0)])) _
    refine XS.icmpYes X0.here hx rfl (pc0 := 20) (pc' := 26) rfl (hb hby d41_20) rfl (flt hc_0).2.2.2 (by decide) (by decide) ?_
    refine XS.aloadN X0.here hx rfl (hb hby d41_26) rfl rfl ?_
    refine XS.iloadN X0.here hx rfl (hb hby d41_27) rfl ?_
    refine XS.iload X0.here hx rfl (hb hby d41_28) rfl ?_
    show Steps p.tables e below (s₁.setTop (mkF m 30 #[.val (.ref a0), .val (.int 0), .val (.ref a2), .val (.int 0), .val (.int 2), .val (.int 0), .val (.int c0)] [(.int c0), (.int 0), (.ref a2)])) _
    refine XS.i2b X0.here hx rfl (hb hby d41_30) rfl ?_
    show Steps p.tables e below (s₁.setTop (mkF m 31 #[.val (.ref a0), .val (.int 0), .val (.ref a2), .val (.int 0), .val (.int 2), .val (.int 0), .val (.int c0)] [(.int (c0.toInt8.toInt32)), (.int 0), (.ref a2)])) _
    refine st33 _ ?_
    show Steps p.tables e below (T33.setTop (mkF m 32 #[.val (.ref a0), .val (.int 0), .val (.ref a2), .val (.int 0), .val (.int 2), .val (.int 0), .val (.int c0)] [])) _
    refine XS.iinc X33.here hx rfl (hb hby d41_32) rfl (l' := #[.val (.ref a0), .val (.int 1), .val (.ref a2), .val (.int 0), .val (.int 2), .val (.int 0), .val (.int c0)]) rfl ?_
    show Steps p.tables e below (T33.setTop (mkF m 35 #[.val (.ref a0), .val (.int 1), .val (.ref a2), .val (.int 0), .val (.int 2), .val (.int 0), .val (.int c0)] [])) _
    refine XS.iinc X33.here hx rfl (hb hby d41_35) rfl (l' := #[.val (.ref a0), .val (.int 1), .val (.ref a2), .val (.int 1), .val (.int 2), .val (.int 0), .val (.int c0)]) rfl ?_
    show Steps p.tables e below (T33.setTop (mkF m 38 #[.val (.ref a0), .val (.int 1), .val (.ref a2), .val (.int 1), .val (.int 2), .val (.int 0), .val (.int c0)] [])) _
    refine XS.iinc X33.here hx rfl (hb hby d41_38) rfl (l' := #[.val (.ref a0), .val (.int 1), .val (.ref a2), .val (.int 1), .val (.int 2), .val (.int 1), .val (.int c0)]) rfl ?_
    refine XS.goto X33.here hx rfl (pc0 := 41) (pc' := 3) rfl (hb hby d41_41) (by decide) (by decide) ?_
    refine XS.iload X33.here hx rfl (hb hby d41_3) rfl ?_
    refine XS.iload X33.here hx rfl (hb hby d41_5) rfl ?_
    show Steps p.tables e below (T33.setTop (mkF m 7 #[.val (.ref a0), .val (.int 1), .val (.ref a2), .val (.int 1), .val (.int 2), .val (.int 1), .val (.int c0)] [(.int 2), (.int 1)])) _
    refine XS.icmpNo X33.here hx rfl (hb hby d41_7) rfl (tlt (by decide : (1 : Int32) < (2 : Int32))).2.1 ?_
    refine XS.aloadN X33.here hx rfl (hb hby d41_10) rfl rfl ?_
    refine XS.iloadN X33.here hx rfl (hb hby d41_11) rfl ?_
    show Steps p.tables e below (T33.setTop (mkF m 12 #[.val (.ref a0), .val (.int 1), .val (.ref a2), .val (.int 1), .val (.int 2), .val (.int 1), .val (.int c0)] [(.int 1), (.ref a0)])) _
    refine X33.caload hx (j := (1 : Int32)) (v := (.int c1)) (by rw [e33]; exact Ar36.1) (State.isArrayOf_alike hZ.alike Ar36.2.1) Ar36.2.2 hin36 hat36 (g := (mkF m 12 #[.val (.ref a0), .val (.int 1), .val (.ref a2), .val (.int 1), .val (.int 2), .val (.int 1), .val (.int c0)] [(.int 1), (.ref a0)])) rfl rfl (hb hby d41_12) _ ?_
    show Steps p.tables e below (T33.setTop (mkF m 13 #[.val (.ref a0), .val (.int 1), .val (.ref a2), .val (.int 1), .val (.int 2), .val (.int 1), .val (.int c0)] [(.int c1)])) _
    refine XS.istore X33.here hx rfl (hb hby d41_13) rfl (l' := #[.val (.ref a0), .val (.int 1), .val (.ref a2), .val (.int 1), .val (.int 2), .val (.int 1), .val (.int c1)]) rfl ?_
    refine XS.iload X33.here hx rfl (hb hby d41_15) rfl ?_
    refine XS.sipush X33.here hx rfl (hb hby d41_17) ?_
    show Steps p.tables e below (T33.setTop (mkF m 20 #[.val (.ref a0), .val (.int 1), .val (.ref a2), .val (.int 1), .val (.int 2), .val (.int 1), .val (.int c1)] [(.int 255), (.int c1)])) _
    refine XS.icmpYes X33.here hx rfl (pc0 := 20) (pc' := 26) rfl (hb hby d41_20) rfl (flt hc_1).2.2.2 (by decide) (by decide) ?_
    show Steps p.tables e below (T33.setTop (mkF m 26 #[.val (.ref a0), .val (.int 1), .val (.ref a2), .val (.int 1), .val (.int 2), .val (.int 1), .val (.int c1)] [])) _
    refine XS.aloadN X33.here hx rfl (hb hby d41_26) rfl rfl ?_
    refine XS.iloadN X33.here hx rfl (hb hby d41_27) rfl ?_
    refine XS.iload X33.here hx rfl (hb hby d41_28) rfl ?_
    show Steps p.tables e below (T33.setTop (mkF m 30 #[.val (.ref a0), .val (.int 1), .val (.ref a2), .val (.int 1), .val (.int 2), .val (.int 1), .val (.int c1)] [(.int c1), (.int 1), (.ref a2)])) _
    refine XS.i2b X33.here hx rfl (hb hby d41_30) rfl ?_
    show Steps p.tables e below (T33.setTop (mkF m 31 #[.val (.ref a0), .val (.int 1), .val (.ref a2), .val (.int 1), .val (.int 2), .val (.int 1), .val (.int c1)] [(.int (c1.toInt8.toInt32)), (.int 1), (.ref a2)])) _
    refine st38 _ ?_
    show Steps p.tables e below (T38.setTop (mkF m 32 #[.val (.ref a0), .val (.int 1), .val (.ref a2), .val (.int 1), .val (.int 2), .val (.int 1), .val (.int c1)] [])) _
    refine XS.iinc X38.here hx rfl (hb hby d41_32) rfl (l' := #[.val (.ref a0), .val (.int 2), .val (.ref a2), .val (.int 1), .val (.int 2), .val (.int 1), .val (.int c1)]) rfl ?_
    show Steps p.tables e below (T38.setTop (mkF m 35 #[.val (.ref a0), .val (.int 2), .val (.ref a2), .val (.int 1), .val (.int 2), .val (.int 1), .val (.int c1)] [])) _
    refine XS.iinc X38.here hx rfl (hb hby d41_35) rfl (l' := #[.val (.ref a0), .val (.int 2), .val (.ref a2), .val (.int 2), .val (.int 2), .val (.int 1), .val (.int c1)]) rfl ?_
    show Steps p.tables e below (T38.setTop (mkF m 38 #[.val (.ref a0), .val (.int 2), .val (.ref a2), .val (.int 2), .val (.int 2), .val (.int 1), .val (.int c1)] [])) _
    refine XS.iinc X38.here hx rfl (hb hby d41_38) rfl (l' := #[.val (.ref a0), .val (.int 2), .val (.ref a2), .val (.int 2), .val (.int 2), .val (.int 2), .val (.int c1)]) rfl ?_
    show Steps p.tables e below (T38.setTop (mkF m 41 #[.val (.ref a0), .val (.int 2), .val (.ref a2), .val (.int 2), .val (.int 2), .val (.int 2), .val (.int c1)] [])) _
    refine XS.goto X38.here hx rfl (pc0 := 41) (pc' := 3) rfl (hb hby d41_41) (by decide) (by decide) ?_
    refine XS.iload X38.here hx rfl (hb hby d41_3) rfl ?_
    refine XS.iload X38.here hx rfl (hb hby d41_5) rfl ?_
    show Steps p.tables e below (T38.setTop (mkF m 7 #[.val (.ref a0), .val (.int 2), .val (.ref a2), .val (.int 2), .val (.int 2), .val (.int 2), .val (.int c1)] [(.int 2), (.int 2)])) _
    refine XS.icmpYes X38.here hx rfl (pc0 := 7) (pc' := 44) rfl (hb hby d41_7) rfl (flt (by decide : ¬ ((2 : Int32) < (2 : Int32)))).2.1 (by decide) (by decide) ?_
    show Steps p.tables e below (T38.setTop (mkF m 44 #[.val (.ref a0), .val (.int 2), .val (.ref a2), .val (.int 2), .val (.int 2), .val (.int 2), .val (.int c1)] [])) _
    refine XS.iload X38.here hx rfl (hb hby d41_44) rfl ?_
    show Steps p.tables e below (T38.setTop (mkF m 46 #[.val (.ref a0), .val (.int 2), .val (.ref a2), .val (.int 2), .val (.int 2), .val (.int 2), .val (.int c1)] [(.int 2)])) _
    exact retI X38 hx Bd.returns (hb hby d41_46) hrL
  · show Q_cmp2 _ _ _ _ _ _ _ _ _ _  T38.heap _
    rw [e38]
    exact ⟨rfl, N38, K39, V38⟩
theorem d40_0 : decode jdk_52_method_16_code 0 = .ok (.iload_n 2, 1) := by decide +kernel
theorem d40_1 : decode jdk_52_method_16_code 1 = .ok (.newarray .byte, 2) := by decide +kernel
theorem d40_3 : decode jdk_52_method_16_code 3 = .ok (.astore_n 3, 1) := by decide +kernel
theorem d40_4 : decode jdk_52_method_16_code 4 = .ok (.aload_n 0, 1) := by decide +kernel
theorem d40_5 : decode jdk_52_method_16_code 5 = .ok (.iload_n 1, 1) := by decide +kernel
theorem d40_6 : decode jdk_52_method_16_code 6 = .ok (.aload_n 3, 1) := by decide +kernel
theorem d40_7 : decode jdk_52_method_16_code 7 = .ok (.iconst 0, 1) := by decide +kernel
theorem d40_8 : decode jdk_52_method_16_code 8 = .ok (.iload_n 2, 1) := by decide +kernel
theorem d40_9 : decode jdk_52_method_16_code 9 = .ok (.invokestatic 115, 3) := by decide +kernel
theorem pd_32 : parseMethodDescriptor "([CI[BII)I" = some ⟨[(.array .char), .int, (.array .byte), .int, .int], some .int⟩ := by decide +kernel
theorem d40_12 : decode jdk_52_method_16_code 12 = .ok (.istore 4, 2) := by decide +kernel
theorem d40_14 : decode jdk_52_method_16_code 14 = .ok (.iload 4, 2) := by decide +kernel
theorem d40_16 : decode jdk_52_method_16_code 16 = .ok (.iload_n 2, 1) := by decide +kernel
theorem d40_17 : decode jdk_52_method_16_code 17 = .ok (.if_icmp .eq 40, 3) := by decide +kernel
theorem d40_57 : decode jdk_52_method_16_code 57 = .ok (.aload_n 3, 1) := by decide +kernel
theorem d40_58 : decode jdk_52_method_16_code 58 = .ok (.areturn, 1) := by decide +kernel
theorem ef_cps2 (m : MethodId) (a0 : Addr) : entryFrame m #[(.ref a0), (.int 0), (.int 2)] 6 = mkF m 0 #[.val (.ref a0), .val (.int 0), .val (.int 2), .unset, .unset, .unset] [] := by first | (simp [entryFrame, mkF, argsToLocals, Value.category]; done) | rfl
def Q_cps2 (Z : State) (a0 : Addr) (c0 : Int32) (c1 : Int32) (k0 : ClassId) (h0 : Heap) (n0 : Nat) (v : Option Value) (h : Heap) (L : List Loc) : Prop := ∃ b : Addr, ∃ kb : ClassId, v = some (.ref b) ∧ Fr n0 L ∧ Keep h0 h [] ∧ h0.size ≤ b ∧ Arv Z h b kb .byte (2 : Int32) [(.int (c0.toInt8.toInt32)), (.int (c1.toInt8.toInt32))] (.int 0)
set_option maxRecDepth 65536 in
set_option maxHeartbeats 40000000 in
theorem cps2 (l : Launch) (Z : State) (av0 : Array Value) (hw : ∀ d ∈ tables_1, d.before av0 Z = true) (ws : List Jvm.Cond) (a0 : Addr) (c0 : Int32) (c1 : Int32) (k0 : ClassId) (h0 : Heap) (n0 : Nat) (Z0 : n0 ≤ h0.size) (p0_A : Arv Z h0 a0 k0 .char (2 : Int32) [(.int c0), (.int c1)] (.int 0)) (hc_0 : ¬ ((255 : Int32) < c0)) (hc_1 : ¬ ((255 : Int32) < c1)) :
    MetFree l (⟨"java/lang/StringUTF16", "compress", "([CII)[B"⟩ : MethodName) (head1 (Jvm.Cond.code (⟨"java/lang/StringUTF16", "compress", "([CII)[B"⟩ : MethodName) jdk_52_method_16_code 6 (some (.array .byte)) :: ws) ({ frames := 1, cells := 1, slots := 2, locals := 18 } : Room)) (fun a U => a = #[(.ref a0), (.int 0), (.int 2)] ∧ Z.Warmed39 U.vm ∧ U.heap = h0) (fun _ _ _ _ _ => True) (fun _ U o U' => ∃ v L, o = .returned v ∧ Q_cps2 Z a0 c0 c1 k0 h0 n0 v U'.heap L ∧ FrameEnd U o U' L ({ frames := 1, cells := 1, slots := 2, locals := 18 } : Room).cells ({ frames := 1, cells := 1, slots := 2, locals := 18 } : Room).slots) := by
  refine MetFree.of_bodySF (plainFor_of_name pn_java_lang_StringUTF16) hisR ?_
  intro p e s m args below meth c s₁ Bd hml0 hP hK
  obtain ⟨rfl, hZ, hh⟩ := hP
  have hx := Bd.exec
  have hby := Bd.bytes
  have hml : c.maxLocals = 6 := hml0
  have hown : s.vm.findClass "java/lang/StringUTF16" = some m.cls := findClass_of_methodNamed Bd.named
  have hnm := (name_of_methodNamed Bd.named Bd.method).1
  have X0 : Stand p l e ({ frames := 1, cells := 1, slots := 2, locals := 18 } : Room) s m #[(.ref a0), (.int 0), (.int 2)] below meth c s₁ [] 0 0 := Stand.of_body Bd
  have e0 : s₁.heap = h0 := by rw [← hh, Bd.state]; rfl
  have N0 := Fr.nil n0
  have pre0 : ∀ tz_, Steps p.tables e below (s₁.setTop (mkF m 0 #[.val (.ref a0), .val (.int 0), .val (.int 2), .unset, .unset, .unset] [])) tz_ → Steps p.tables e below (s₁.setTop (entryFrame m #[(.ref a0), (.int 0), (.int 2)] 6)) tz_ := fun tz_ kz_ => castTop (ef_cps2 m a0) kz_
  have K0 : Keep h0 h0 [] := Keep.refl h0 []
  obtain ⟨T31, h31, k31, X31, e31, E31, A31, st31⟩ := newP X0 hx hZ (hw _ (mg (i := 18) rfl)) e0 (g := (mkF m 1 #[.val (.ref a0), .val (.int 0), .val (.int 2), .unset, .unset, .unset] [(.int 2)])) rfl (hb hby d40_1) rfl (by decide) (cap := 2) (by decide) (by decide) (by decide) (by decide)
  obtain ⟨b31, q31⟩ : ∃ z, z = h0.size := ⟨_, rfl⟩
  rw [← q31] at A31 st31
  have g_b31 : n0 ≤ b31 := Nat.le_trans (Nat.le_trans Z0 K0.1) (Nat.le_of_eq q31.symm)
  have sz_b31 : h0.size ≤ b31 := Nat.le_trans K0.1 (Nat.le_of_eq q31.symm)
  have V31 : Arv Z h31 b31 k31 .byte (2 : Int32) [(.int 0), (.int 0)] (.int 0) := (Arv.new A31 (by decide)).pad (pad_rep [] (.int 0) 2)
  have K32 := K0.ext E31
  have f33 := (p0_A.ext E31)
  have ne34 : a0 ≠ b31 := (Nat.ne_of_lt (Nat.lt_of_lt_of_le p0_A.lt (Nat.le_of_eq q31.symm)))
  -- pc 9: StringUTF16.compress
  obtain ⟨_, _, ⟨T35, L35, k35, n35⟩, -, X35, ⟨Lc35, hQ35, l35, y35, z35⟩, st35⟩ := Jvm.LawKit.callS X31 hx (y := (⟨"java/lang/StringUTF16", "compress", "([CI[BII)I"⟩ : MethodName)) hown (mvT hZ (hw _ (mg (i := 207) rfl))) (mvT hZ (hw _ (mg (i := 208) rfl))) (mvT hZ (hw _ (mg (i := 205) rfl))) (mvT hZ (hw _ (mg (i := 209) rfl))) (by decide) (backOf (W := 0) (cmp2 l Z av0 hw [] a0 b31 c0 c1 k0 k31 h31 n0 (Nat.le_trans Z0 K32.1) f33 V31 ne34 g_b31 (hc_0 : ¬ ((255 : Int32) < c0)) (hc_1 : ¬ ((255 : Int32) < c1))) hZ (hw _ (mg (i := 209) rfl)) (hw _ (mg (i := 205) rfl)) (by decide) (by decide)) (g := (mkF m 9 #[.val (.ref a0), .val (.int 0), .val (.int 2), .val (.ref b31), .unset, .unset] [(.int 2), (.int 0), (.ref b31), (.int 0), (.ref a0)])) rfl (by rw [hml]; rfl) (argsL := [(.ref a0), (.int 0), (.ref b31), (.int 0), (.int 2)]) (rest := []) (lenOf pd_32 rfl) rfl (by show 2 * 0 + _ ≤ _; exact Nat.le_of_eq rfl) (hb hby d40_9) (fun vmx hWx => ⟨rfl, e31, (by decide : 1 + 0 ≤ _), (by decide : 2 + 0 ≤ _)⟩)
  dsimp only [Pt.U, Pt.locs, Pt.cells, Pt.slots] at X35 l35 y35 z35 st35 hQ35
  subst l35 y35 z35
  obtain ⟨rv35, Nq35, Kq35, u35_0⟩ := hQ35
  subst rv35
  have N35 := Fr.app N0 Nq35
  have K36 := K32.trans Kq35 (allS (Or.inr sz_b31) all0)
  obtain ⟨fs, hrL, hrun, hended, hW, hsame⟩ := X35.leave (v := some (.ref b31)) (fun h => by rw [Bd.returns] at h; cases h)
  refine ⟨_, _, pre0 _ ?_, hrun, hended, _, _, rfl, ?_, ⟨_, rfl⟩, hW, hsame.mono (by decide) (by decide)⟩
  · show Steps p.tables e below (s₁.setTop (mkF m 0 #[.val (.ref a0), .val (.int 0), .val (.int 2), .unset, .unset, .unset] [])) _
    refine XS.iloadN X0.here hx rfl (hb hby d40_0) rfl ?_
    show Steps p.tables e below (s₁.setTop (mkF m 1 #[.val (.ref a0), .val (.int 0), .val (.int 2), .unset, .unset, .unset] [(.int 2)])) _
    refine st31 _ ?_
    refine XS.astoreN X31.here hx rfl (hb hby d40_3) rfl rfl (l' := #[.val (.ref a0), .val (.int 0), .val (.int 2), .val (.ref b31), .unset, .unset]) rfl ?_
    show Steps p.tables e below (T31.setTop (mkF m 4 #[.val (.ref a0), .val (.int 0), .val (.int 2), .val (.ref b31), .unset, .unset] [])) _
    refine XS.aloadN X31.here hx rfl (hb hby d40_4) rfl rfl ?_
    refine XS.iloadN X31.here hx rfl (hb hby d40_5) rfl ?_
    refine XS.aloadN X31.here hx rfl (hb hby d40_6) rfl rfl ?_
    refine XS.iconst X31.here hx rfl (hb hby d40_7) ?_
    show Steps p.tables e below (T31.setTop (mkF m 8 #[.val (.ref a0), .val (.int 0), .val (.int 2), .val (.ref b31), .unset, .unset] [(.int 0), (.ref b31), (.int 0), (.ref a0)])) _
    refine XS.iloadN X31.here hx rfl (hb hby d40_8) rfl ?_
    show Steps p.tables e below (T31.setTop (mkF m 9 #[.val (.ref a0), .val (.int 0), .val (.int 2), .val (.ref b31), .unset, .unset] [(.int 2), (.int 0), (.ref b31), (.int 0), (.ref a0)])) _
    refine st35 _ ?_
    refine XS.istore X35.here hx rfl (hb hby d40_12) rfl (l' := #[.val (.ref a0), .val (.int 0), .val (.int 2), .val (.ref b31), .val (.int 2), .unset]) rfl ?_
    refine XS.iload X35.here hx rfl (hb hby d40_14) rfl ?_
    show Steps p.tables e below (T35.setTop (mkF m 16 #[.val (.ref a0), .val (.int 0), .val (.int 2), .val (.ref b31), .val (.int 2), .unset] [(.int 2)])) _
    refine XS.iloadN X35.here hx rfl (hb hby d40_16) rfl ?_
    show Steps p.tables e below (T35.setTop (mkF m 17 #[.val (.ref a0), .val (.int 0), .val (.int 2), .val (.ref b31), .val (.int 2), .unset] [(.int 2), (.int 2)])) _
    refine XS.icmpYes X35.here hx rfl (pc0 := 17) (pc' := 57) rfl (hb hby d40_17) rfl (teq (by decide : (2 : Int32) = (2 : Int32))).1 (by decide) (by decide) ?_
    refine XS.aloadN X35.here hx rfl (hb hby d40_57) rfl rfl ?_
    show Steps p.tables e below (T35.setTop (mkF m 58 #[.val (.ref a0), .val (.int 0), .val (.int 2), .val (.ref b31), .val (.int 2), .unset] [(.ref b31)])) _
    exact retOut X35 hx Bd.returns rfl (Or.inr (Or.inr (Or.inr (Or.inr ⟨rfl, rfl, rfl⟩)))) (hb hby d40_58) hrL
  · show Q_cps2 _ _ _ _ _ _ _ _  T35.heap _
    exact ⟨b31, k31, rfl, N35, K36, sz_b31, u35_0⟩
theorem d42_0 : decode jdk_52_method_15_code 0 = .ok (.iload_n 1, 1) := by decide +kernel
theorem d42_1 : decode jdk_52_method_15_code 1 = .ok (.aload_n 0, 1) := by decide +kernel
theorem d42_2 : decode jdk_52_method_15_code 2 = .ok (.arraylength, 1) := by decide +kernel
theorem d42_3 : decode jdk_52_method_15_code 3 = .ok (.isub, 1) := by decide +kernel
theorem d42_4 : decode jdk_52_method_15_code 4 = .ok (.bipush 31, 2) := by decide +kernel
theorem d42_6 : decode jdk_52_method_15_code 6 = .ok (.iushr, 1) := by decide +kernel
theorem d42_7 : decode jdk_52_method_15_code 7 = .ok (.i2b, 1) := by decide +kernel
theorem d42_8 : decode jdk_52_method_15_code 8 = .ok (.ireturn, 1) := by decide +kernel
theorem ef_cfl2 (m : MethodId) (a0 : Addr) : entryFrame m #[(.ref a0), (.int 2)] 2 = mkF m 0 #[.val (.ref a0), .val (.int 2)] [] := by first | (simp [entryFrame, mkF, argsToLocals, Value.category]; done) | rfl
def Q_cfl2 (Z : State) (a0 : Addr) (vs : List Value) (k0 : ClassId) (h0 : Heap) (n0 : Nat) (v : Option Value) (h : Heap) (L : List Loc) : Prop := v = some (.int 0) ∧ Fr n0 L ∧ h = h0
set_option maxRecDepth 65536 in
set_option maxHeartbeats 40000000 in
theorem cfl2 (l : Launch) (Z : State) (av0 : Array Value) (hw : ∀ d ∈ tables_1, d.before av0 Z = true) (ws : List Jvm.Cond) (a0 : Addr) (vs : List Value) (k0 : ClassId) (h0 : Heap) (n0 : Nat) (Z0 : n0 ≤ h0.size) (p0_A : Arv Z h0 a0 k0 .byte (2 : Int32) vs (.int 0)) :
    MetFree l (⟨"java/lang/StringUTF16", "coderFromArrayLen", "([BI)B"⟩ : MethodName) (head1 (Jvm.Cond.code (⟨"java/lang/StringUTF16", "coderFromArrayLen", "([BI)B"⟩ : MethodName) jdk_52_method_15_code 2 (some .byte) :: ws) ({ frames := 0, cells := 0, slots := 0, locals := 0 } : Room)) (fun a U => a = #[(.ref a0), (.int 2)] ∧ Z.Warmed39 U.vm ∧ U.heap = h0) (fun _ _ _ _ _ => True) (fun _ U o U' => ∃ v L, o = .returned v ∧ Q_cfl2 Z a0 vs k0 h0 n0 v U'.heap L ∧ FrameEnd U o U' L ({ frames := 0, cells := 0, slots := 0, locals := 0 } : Room).cells ({ frames := 0, cells := 0, slots := 0, locals := 0 } : Room).slots) := by
  refine MetFree.of_bodySF (plainFor_of_name pn_java_lang_StringUTF16) hisR ?_
  intro p e s m args below meth c s₁ Bd hml0 hP hK
  obtain ⟨rfl, hZ, hh⟩ := hP
  have hx := Bd.exec
  have hby := Bd.bytes
  have hml : c.maxLocals = 2 := hml0
  have hown : s.vm.findClass "java/lang/StringUTF16" = some m.cls := findClass_of_methodNamed Bd.named
  have hnm := (name_of_methodNamed Bd.named Bd.method).1
  have X0 : Stand p l e ({ frames := 0, cells := 0, slots := 0, locals := 0 } : Room) s m #[(.ref a0), (.int 2)] below meth c s₁ [] 0 0 := Stand.of_body Bd
  have e0 : s₁.heap = h0 := by rw [← hh, Bd.state]; rfl
  have N0 := Fr.nil n0
  have pre0 : ∀ tz_, Steps p.tables e below (s₁.setTop (mkF m 0 #[.val (.ref a0), .val (.int 2)] [])) tz_ → Steps p.tables e below (s₁.setTop (entryFrame m #[(.ref a0), (.int 2)] 2)) tz_ := fun tz_ kz_ => castTop (ef_cfl2 m a0) kz_
  obtain ⟨cl31, Ar31, -, qs31, qn31, -, -⟩ := id p0_A
  obtain ⟨fs, hrL, hrun, hended, hW, hsame⟩ := X0.leave (v := some (.int 0)) (fun h => by rw [Bd.returns] at h; cases h)
  refine ⟨_, _, pre0 _ ?_, hrun, hended, _, _, rfl, ?_, ⟨_, rfl⟩, hW, hsame.mono (by decide) (by decide)⟩
  · show Steps p.tables e below (s₁.setTop (mkF m 0 #[.val (.ref a0), .val (.int 2)] [])) _
    refine XS.iloadN X0.here hx rfl (hb hby d42_0) rfl ?_
    refine XS.aloadN X0.here hx rfl (hb hby d42_1) rfl rfl ?_
    show Steps p.tables e below (s₁.setTop (mkF m 2 #[.val (.ref a0), .val (.int 2)] [(.ref a0), (.int 2)])) _
    refine X0.arraylength hx (by rw [e0]; exact Ar31.1) (State.isArrayOf_alike hZ.alike Ar31.2.1) (g := (mkF m 2 #[.val (.ref a0), .val (.int 2)] [(.ref a0), (.int 2)])) rfl rfl (hb hby d42_2) _ ?_
    rw [len_of qs31 qn31]
    show Steps p.tables e below (s₁.setTop (mkF m 3 #[.val (.ref a0), .val (.int 2)] [(.int 2), (.int 2)])) _
    refine XS.isub X0.here hx rfl (hb hby d42_3) rfl ?_
    show Steps p.tables e below (s₁.setTop (mkF m 4 #[.val (.ref a0), .val (.int 2)] [(.int ((2 : Int32) - (2 : Int32)))])) _
    rw [show ((2 : Int32) - (2 : Int32)) = (0 : Int32) from by decide]
    refine XS.bipush X0.here hx rfl (hb hby d42_4) ?_
    show Steps p.tables e below (s₁.setTop (mkF m 6 #[.val (.ref a0), .val (.int 2)] [(.int 31), (.int 0)])) _
    refine XS.iushr X0.here hx rfl (hb hby d42_6) rfl ?_
    show Steps p.tables e below (s₁.setTop (mkF m 7 #[.val (.ref a0), .val (.int 2)] [(.int (((0 : Int32).toUInt32 >>> ((31 : Int32) &&& 31).toUInt32).toInt32))])) _
    rw [show (((0 : Int32).toUInt32 >>> ((31 : Int32) &&& 31).toUInt32).toInt32) = (0 : Int32) from by decide]
    show Steps p.tables e below (s₁.setTop (mkF m 7 #[.val (.ref a0), .val (.int 2)] [(.int 0)])) _
    refine XS.i2b X0.here hx rfl (hb hby d42_7) rfl ?_
    show Steps p.tables e below (s₁.setTop (mkF m 8 #[.val (.ref a0), .val (.int 2)] [(.int ((0 : Int32).toInt8.toInt32))])) _
    rw [show ((0 : Int32).toInt8.toInt32) = (0 : Int32) from by decide]
    show Steps p.tables e below (s₁.setTop (mkF m 8 #[.val (.ref a0), .val (.int 2)] [(.int 0)])) _
    exact retN X0 hx (t := .byte) Bd.returns (by simp) (hb hby d42_8) hrL
  · show Q_cfl2 _ _ _ _ _ _ _  s₁.heap _
    rw [e0]
    exact ⟨rfl, N0, rfl⟩
theorem d8_0 : decode jdk_42_method_149_code 0 = .ok (.aload_n 0, 1) := by decide +kernel
theorem d8_1 : decode jdk_42_method_149_code 1 = .ok (.invokespecial 1, 3) := by decide +kernel
theorem d8_4 : decode jdk_42_method_149_code 4 = .ok (.iload_n 3, 1) := by decide +kernel
theorem d8_5 : decode jdk_42_method_149_code 5 = .ok (.ifCond .ne 22, 3) := by decide +kernel
theorem d8_27 : decode jdk_42_method_149_code 27 = .ok (.getstatic 38, 3) := by decide +kernel
theorem d8_30 : decode jdk_42_method_149_code 30 = .ok (.ifCond .eq 28, 3) := by decide +kernel
theorem d8_33 : decode jdk_42_method_149_code 33 = .ok (.aload_n 1, 1) := by decide +kernel
theorem d8_34 : decode jdk_42_method_149_code 34 = .ok (.iload_n 2, 1) := by decide +kernel
theorem d8_35 : decode jdk_42_method_149_code 35 = .ok (.iload_n 3, 1) := by decide +kernel
theorem d8_36 : decode jdk_42_method_149_code 36 = .ok (.invokestatic 177, 3) := by decide +kernel
theorem pd_31 : parseMethodDescriptor "([CII)[B" = some ⟨[(.array .char), .int, .int], some (.array .byte)⟩ := by decide +kernel
theorem d8_39 : decode jdk_42_method_149_code 39 = .ok (.astore 5, 2) := by decide +kernel
theorem d8_41 : decode jdk_42_method_149_code 41 = .ok (.aload_n 0, 1) := by decide +kernel
theorem d8_42 : decode jdk_42_method_149_code 42 = .ok (.aload 5, 2) := by decide +kernel
theorem d8_44 : decode jdk_42_method_149_code 44 = .ok (.iload_n 3, 1) := by decide +kernel
theorem d8_45 : decode jdk_42_method_149_code 45 = .ok (.invokestatic 47, 3) := by decide +kernel
theorem pd_33 : parseMethodDescriptor "([BI)B" = some ⟨[(.array .byte), .int], some .byte⟩ := by decide +kernel
theorem d8_48 : decode jdk_42_method_149_code 48 = .ok (.putfield 15, 3) := by decide +kernel
theorem d8_51 : decode jdk_42_method_149_code 51 = .ok (.aload_n 0, 1) := by decide +kernel
theorem d8_52 : decode jdk_42_method_149_code 52 = .ok (.aload 5, 2) := by decide +kernel
theorem d8_54 : decode jdk_42_method_149_code 54 = .ok (.putfield 9, 3) := by decide +kernel
theorem d8_57 : decode jdk_42_method_149_code 57 = .ok (.return_, 1) := by decide +kernel
theorem ef_si2 (m : MethodId) (a0 : Addr) (a1 : Addr) : entryFrame m #[(.ref a0), (.ref a1), (.int 0), (.int 2), .null] 6 = mkF m 0 #[.val (.ref a0), .val (.ref a1), .val (.int 0), .val (.int 2), .val .null, .unset] [] := by first | (simp [entryFrame, mkF, argsToLocals, Value.category]; done) | rfl
def Q_si2 (Z : State) (a0 : Addr) (a1 : Addr) (c0 : Int32) (c1 : Int32) (k0 : ClassId) (cs : Int32) (h0 : Heap) (n0 : Nat) (v : Option Value) (h : Heap) (L : List Loc) : Prop := ∃ b : Addr, ∃ kb : ClassId, v = none ∧ Fr n0 L ∧ Keep h0 h [a0] ∧ h0.size ≤ b ∧ Exa Z h a0 "java/lang/String" ∧ Fld Z h a0 "java/lang/String" "value" "[B" (.ref b) ∧ Fld Z h a0 "java/lang/String" "coder" "B" (.int 0) ∧ Arv Z h b kb .byte (2 : Int32) [(.int (c0.toInt8.toInt32)), (.int (c1.toInt8.toInt32))] (.int 0)
set_option maxRecDepth 65536 in
set_option maxHeartbeats 40000000 in
theorem si2 (l : Launch) (Z : State) (av0 : Array Value) (hw : ∀ d ∈ tables_1, d.before av0 Z = true) (ws : List Jvm.Cond) (a0 : Addr) (a1 : Addr) (c0 : Int32) (c1 : Int32) (k0 : ClassId) (cs : Int32) (h0 : Heap) (n0 : Nat) (Z0 : n0 ≤ h0.size) (p0_O : Old Z n0 h0) (p1_S : Sta Z Z.heap "java/lang/String" "COMPACT_STRINGS" "Z" (.int cs)) (hcs : ¬ (cs = (0 : Int32))) (p3_E : Exa Z h0 a0 "java/lang/String") (p4_F : Fld Z h0 a0 "java/lang/String" "value" "[B" .null) (p5_F : Fld Z h0 a0 "java/lang/String" "coder" "B" (.int 0)) (p6_g : n0 ≤ a0) (p7_A : Arv Z h0 a1 k0 .char (2 : Int32) [(.int c0), (.int c1)] (.int 0)) (p8_ne : a0 ≠ a1) (hc_0 : ¬ ((255 : Int32) < c0)) (hc_1 : ¬ ((255 : Int32) < c1)) :
    MetFree l (⟨"java/lang/String", "<init>", "([CIILjava/lang/Void;)V"⟩ : MethodName) (head1 (Jvm.Cond.code (⟨"java/lang/String", "<init>", "([CIILjava/lang/Void;)V"⟩ : MethodName) jdk_42_method_149_code 6 none :: ws) ({ frames := 2, cells := 1, slots := 2, locals := 35 } : Room)) (fun a U => a = #[(.ref a0), (.ref a1), (.int 0), (.int 2), .null] ∧ Z.Warmed39 U.vm ∧ U.heap = h0) (fun _ _ _ _ _ => True) (fun _ U o U' => ∃ v L, o = .returned v ∧ Q_si2 Z a0 a1 c0 c1 k0 cs h0 n0 v U'.heap L ∧ FrameEnd U o U' L ({ frames := 2, cells := 1, slots := 2, locals := 35 } : Room).cells ({ frames := 2, cells := 1, slots := 2, locals := 35 } : Room).slots) := by
  refine MetFree.of_bodySF (plainFor_of_name pn_java_lang_String) hisR ?_
  intro p e s m args below meth c s₁ Bd hml0 hP hK
  obtain ⟨rfl, hZ, hh⟩ := hP
  have hx := Bd.exec
  have hby := Bd.bytes
  have hml : c.maxLocals = 6 := hml0
  have hown : s.vm.findClass "java/lang/String" = some m.cls := findClass_of_methodNamed Bd.named
  have hnm := (name_of_methodNamed Bd.named Bd.method).1
  have X0 : Stand p l e ({ frames := 2, cells := 1, slots := 2, locals := 35 } : Room) s m #[(.ref a0), (.ref a1), (.int 0), (.int 2), .null] below meth c s₁ [] 0 0 := Stand.of_body Bd
  have e0 : s₁.heap = h0 := by rw [← hh, Bd.state]; rfl
  have N0 := Fr.nil n0
  have pre0 : ∀ tz_, Steps p.tables e below (s₁.setTop (mkF m 0 #[.val (.ref a0), .val (.ref a1), .val (.int 0), .val (.int 2), .val .null, .unset] [])) tz_ → Steps p.tables e below (s₁.setTop (entryFrame m #[(.ref a0), (.ref a1), (.int 0), (.int 2), .null] 6)) tz_ := fun tz_ kz_ => castTop (ef_si2 m a0 a1) kz_
  have K0 : Keep h0 h0 [a0] := Keep.refl h0 [a0]
  obtain ⟨T31, X31, e31, st31⟩ := initO X0 hx hZ hown (hw _ (mg (i := 23) rfl)) (hw _ (mg (i := 24) rfl)) (hw _ (mg (i := 25) rfl)) e0 (g := (mkF m 1 #[.val (.ref a0), .val (.ref a1), .val (.int 0), .val (.int 2), .val .null, .unset] [(.ref a0)])) rfl (by rw [hml]; rfl) rfl (hb hby d8_1) (by decide) (W := 0) (by show 2 * 0 + _ ≤ _; exact Nat.le_of_eq rfl) (by decide)
  obtain ⟨T32, X32, e32, st32⟩ := getS2 X31 hx hZ hown (host := "") (Or.inl (hw _ (mg (i := 8) rfl))) Via.refl e31 (p1_S.ext p0_O.2) (g := (mkF m 27 #[.val (.ref a0), .val (.ref a1), .val (.int 0), .val (.int 2), .val .null, .unset] [])) rfl (hb hby d8_27)
  -- pc 36: StringUTF16.compress
  obtain ⟨_, _, ⟨T33, L33, k33, n33⟩, -, X33, ⟨Lc33, hQ33, l33, y33, z33⟩, st33⟩ := Jvm.LawKit.callS X32 hx (y := (⟨"java/lang/StringUTF16", "compress", "([CII)[B"⟩ : MethodName)) hown (mvT hZ (hw _ (mg (i := 203) rfl))) (mvT hZ (hw _ (mg (i := 204) rfl))) (mvT hZ (hw _ (mg (i := 205) rfl))) (mvT hZ (hw _ (mg (i := 206) rfl))) (by decide) (backOf (W := 0) (cps2 l Z av0 hw [] a1 c0 c1 k0 h0 n0 (own_le p0_O) p7_A (hc_0 : ¬ ((255 : Int32) < c0)) (hc_1 : ¬ ((255 : Int32) < c1))) hZ (hw _ (mg (i := 206) rfl)) (hw _ (mg (i := 205) rfl)) (by decide) (by decide)) (g := (mkF m 36 #[.val (.ref a0), .val (.ref a1), .val (.int 0), .val (.int 2), .val .null, .unset] [(.int 2), (.int 0), (.ref a1)])) rfl (by rw [hml]; rfl) (argsL := [(.ref a1), (.int 0), (.int 2)]) (rest := []) (lenOf pd_31 rfl) rfl (by show 2 * 0 + _ ≤ _; exact Nat.le_of_eq rfl) (hb hby d8_36) (fun vmx hWx => ⟨rfl, e32, (by decide : 0 + 1 ≤ _), (by decide : 0 + 2 ≤ _)⟩)
  dsimp only [Pt.U, Pt.locs, Pt.cells, Pt.slots] at X33 l33 y33 z33 st33 hQ33
  subst l33 y33 z33
  obtain ⟨b_33, kb_33, rv33, Nq33, Kq33, u33_0, u33_1⟩ := hQ33
  subst rv33
  have N33 := Fr.app N0 Nq33
  have g_b_33 : n0 ≤ b_33 := Nat.le_trans (own_le p0_O) u33_0
  have sz_b_33 : h0.size ≤ b_33 := Nat.le_trans K0.1 u33_0
  have K34 := K0.trans Kq33 all0
  have O34 := p0_O.keep Kq33 all0
  -- pc 45: StringUTF16.coderFromArrayLen
  obtain ⟨_, _, ⟨T35, L35, k35, n35⟩, -, X35, ⟨Lc35, hQ35, l35, y35, z35⟩, st35⟩ := Jvm.LawKit.callS X33 hx (y := (⟨"java/lang/StringUTF16", "coderFromArrayLen", "([BI)B"⟩ : MethodName)) hown (mvT hZ (hw _ (mg (i := 210) rfl))) (mvT hZ (hw _ (mg (i := 211) rfl))) (mvT hZ (hw _ (mg (i := 205) rfl))) (mvT hZ (hw _ (mg (i := 212) rfl))) (by decide) (backOf (W := 1) (cfl2 l Z av0 hw [] b_33 [(.int (c0.toInt8.toInt32)), (.int (c1.toInt8.toInt32))] kb_33 T33.heap n0 (own_le O34) u33_1) hZ (hw _ (mg (i := 212) rfl)) (hw _ (mg (i := 205) rfl)) (by decide) (by decide)) (g := (mkF m 45 #[.val (.ref a0), .val (.ref a1), .val (.int 0), .val (.int 2), .val .null, .val (.ref b_33)] [(.int 2), (.ref b_33), (.ref a0)])) rfl (by rw [hml]; rfl) (argsL := [(.ref b_33), (.int 2)]) (rest := [(.ref a0)]) (lenOf pd_33 rfl) rfl (by show 2 * 0 + _ ≤ _; exact Nat.le_of_eq rfl) (hb hby d8_45) (fun vmx hWx => ⟨rfl, rfl, (by decide : 1 + 0 ≤ _), (by decide : 2 + 0 ≤ _)⟩)
  dsimp only [Pt.U, Pt.locs, Pt.cells, Pt.slots] at X35 l35 y35 z35 st35 hQ35
  subst l35 y35 z35
  obtain ⟨rv35, Nq35, Kq35⟩ := hQ35
  subst rv35
  have N35 := Fr.app N33 Nq35
  have f36 := (p5_F.keep Kq33 nin0)
  have f37 := (p3_E.keep Kq33)
  obtain ⟨T38, h38, X38, e38, W38, st38⟩ := putF X35 hx hZ hown (host := "") (Or.inl (hw _ (mg (i := 28) rfl))) Via.refl Kq35 f36 f37 (Or.inr ⟨(hw _ (mg (i := 29) rfl)), rfl, hnm⟩) (hw _ (mg (i := 14) rfl)) (ty := .byte) (by decide) rfl rfl (g := (mkF m 48 #[.val (.ref a0), .val (.ref a1), .val (.int 0), .val (.int 2), .val .null, .val (.ref b_33)] [(.int 0), (.ref a0)])) rfl rfl (hb hby d8_48)
  have Fw38 : Fld Z h38 a0 "java/lang/String" "coder" "B" (.int 0) := f36.same W38
  have N38 := Fr.snoc X38 N35 p6_g
  have K39 := K34.wr W38 (Or.inl (List.mem_of_getElem? (i := 0) rfl))
  have O39 := O34.wr W38 p6_g
  have f40 := ((p4_F.keep Kq33 nin0).other W38 (Or.inr (slot_ne (Or.inr (hw _ (mg (i := 27) rfl))) (Or.inr (hw _ (mg (i := 29) rfl))) (by decide) (t := (.array .byte)) (t' := .byte) (by decide) (by decide))))
  have f41 := (f37.wr W38)
  obtain ⟨T42, h42, X42, e42, W42, st42⟩ := putF X38 hx hZ hown (host := "") (Or.inl (hw _ (mg (i := 26) rfl))) Via.refl e38 f40 f41 (Or.inr ⟨(hw _ (mg (i := 27) rfl)), rfl, hnm⟩) (hw _ (mg (i := 14) rfl)) (ty := (.array .byte)) (by decide) rfl rfl (g := (mkF m 54 #[.val (.ref a0), .val (.ref a1), .val (.int 0), .val (.int 2), .val .null, .val (.ref b_33)] [(.ref b_33), (.ref a0)])) rfl rfl (hb hby d8_54)
  have Fw42 : Fld Z h42 a0 "java/lang/String" "value" "[B" (.ref b_33) := f40.same W42
  have N42 := Fr.snoc X42 N38 p6_g
  have K43 := K39.wr W42 (Or.inl (List.mem_of_getElem? (i := 0) rfl))
  have O43 := O39.wr W42 p6_g
  obtain ⟨fs, hrL, hrun, hended, hW, hsame⟩ := X42.leave (v := none) (fun _ => rfl)
  have f44 := (f41.wr W42)
  have f45 := (Fw38.other W42 (Or.inr (slot_ne (Or.inr (hw _ (mg (i := 29) rfl))) (Or.inr (hw _ (mg (i := 27) rfl))) (by decide) (t := .byte) (t' := (.array .byte)) (by decide) (by decide))))
  have ne46 : b_33 ≠ a0 := (Ne.symm (Nat.ne_of_lt (Nat.lt_of_lt_of_le p3_E.lt u33_0)))
  have f47 := ((u33_1.other W38 ne46).other W42 ne46)
  refine ⟨_, _, pre0 _ ?_, hrun, hended, _, _, rfl, ?_, ⟨_, rfl⟩, hW, hsame.mono (by decide) (by decide)⟩
  · show Steps p.tables e below (s₁.setTop (mkF m 0 #[.val (.ref a0), .val (.ref a1), .val (.int 0), .val (.int 2), .val .null, .unset] [])) _
    refine XS.aloadN X0.here hx rfl (hb hby d8_0) rfl rfl ?_
    show Steps p.tables e below (s₁.setTop (mkF m 1 #[.val (.ref a0), .val (.ref a1), .val (.int 0), .val (.int 2), .val .null, .unset] [(.ref a0)])) _
    refine st31 _ ?_
    refine XS.iloadN X31.here hx rfl (hb hby d8_4) rfl ?_
    show Steps p.tables e below (T31.setTop (mkF m 5 #[.val (.ref a0), .val (.ref a1), .val (.int 0), .val (.int 2), .val .null, .unset] [(.int 2)])) _
    refine XS.ifYes X31.here hx rfl (pc0 := 5) (pc' := 27) rfl (hb hby d8_5) rfl ((if0 _ _).trans (feq (by decide : ¬ ((2 : Int32) = (0 : Int32)))).2) (by decide) (by decide) ?_
    show Steps p.tables e below (T31.setTop (mkF m 27 #[.val (.ref a0), .val (.ref a1), .val (.int 0), .val (.int 2), .val .null, .unset] [])) _
    refine st32 _ ?_
    show Steps p.tables e below (T32.setTop (mkF m 30 #[.val (.ref a0), .val (.ref a1), .val (.int 0), .val (.int 2), .val .null, .unset] [(.int cs)])) _
    refine XS.ifNo X32.here hx rfl (hb hby d8_30) rfl ((if0 _ _).trans (feq hcs).1) ?_
    refine XS.aloadN X32.here hx rfl (hb hby d8_33) rfl rfl ?_
    show Steps p.tables e below (T32.setTop (mkF m 34 #[.val (.ref a0), .val (.ref a1), .val (.int 0), .val (.int 2), .val .null, .unset] [(.ref a1)])) _
    refine XS.iloadN X32.here hx rfl (hb hby d8_34) rfl ?_
    refine XS.iloadN X32.here hx rfl (hb hby d8_35) rfl ?_
    show Steps p.tables e below (T32.setTop (mkF m 36 #[.val (.ref a0), .val (.ref a1), .val (.int 0), .val (.int 2), .val .null, .unset] [(.int 2), (.int 0), (.ref a1)])) _
    refine st33 _ ?_
    refine XS.astore X33.here hx rfl (hb hby d8_39) rfl rfl (l' := #[.val (.ref a0), .val (.ref a1), .val (.int 0), .val (.int 2), .val .null, .val (.ref b_33)]) rfl ?_
    show Steps p.tables e below (T33.setTop (mkF m 41 #[.val (.ref a0), .val (.ref a1), .val (.int 0), .val (.int 2), .val .null, .val (.ref b_33)] [])) _
    refine XS.aloadN X33.here hx rfl (hb hby d8_41) rfl rfl ?_
    refine XS.aload X33.here hx rfl (hb hby d8_42) rfl rfl ?_
    refine XS.iloadN X33.here hx rfl (hb hby d8_44) rfl ?_
    show Steps p.tables e below (T33.setTop (mkF m 45 #[.val (.ref a0), .val (.ref a1), .val (.int 0), .val (.int 2), .val .null, .val (.ref b_33)] [(.int 2), (.ref b_33), (.ref a0)])) _
    refine st35 _ ?_
    show Steps p.tables e below (T35.setTop (mkF m 48 #[.val (.ref a0), .val (.ref a1), .val (.int 0), .val (.int 2), .val .null, .val (.ref b_33)] [(.int 0), (.ref a0)])) _
    refine st38 _ ?_
    refine XS.aloadN X38.here hx rfl (hb hby d8_51) rfl rfl ?_
    refine XS.aload X38.here hx rfl (hb hby d8_52) rfl rfl ?_
    show Steps p.tables e below (T38.setTop (mkF m 54 #[.val (.ref a0), .val (.ref a1), .val (.int 0), .val (.int 2), .val .null, .val (.ref b_33)] [(.ref b_33), (.ref a0)])) _
    refine st42 _ ?_
    show Steps p.tables e below (T42.setTop (mkF m 57 #[.val (.ref a0), .val (.ref a1), .val (.int 0), .val (.int 2), .val .null, .val (.ref b_33)] [])) _
    exact X42.returnOut hx Bd.returns (hb hby d8_57) hrL
  · show Q_si2 _ _ _ _ _ _ _ _ _ _  T42.heap _
    rw [e42]
    exact ⟨b_33, kb_33, rfl, N42, K43, sz_b_33, f44, Fw42, f45, f47⟩
theorem d7_0 : decode jdk_42_method_3_code 0 = .ok (.aload_n 0, 1) := by decide +kernel
theorem d7_1 : decode jdk_42_method_3_code 1 = .ok (.aload_n 1, 1) := by decide +kernel
theorem d7_2 : decode jdk_42_method_3_code 2 = .ok (.iconst 0, 1) := by decide +kernel
theorem d7_3 : decode jdk_42_method_3_code 3 = .ok (.aload_n 1, 1) := by decide +kernel
theorem d7_4 : decode jdk_42_method_3_code 4 = .ok (.arraylength, 1) := by decide +kernel
theorem d7_5 : decode jdk_42_method_3_code 5 = .ok (.aconst_null, 1) := by decide +kernel
theorem d7_6 : decode jdk_42_method_3_code 6 = .ok (.invokespecial 27, 3) := by decide +kernel
theorem pd_7 : parseMethodDescriptor "([CIILjava/lang/Void;)V" = some ⟨[(.array .char), .int, .int, (.object "java/lang/Void")], none⟩ := by decide +kernel
theorem d7_9 : decode jdk_42_method_3_code 9 = .ok (.return_, 1) := by decide +kernel
theorem ef_sc2 (m : MethodId) (a0 : Addr) (a1 : Addr) : entryFrame m #[(.ref a0), (.ref a1)] 2 = mkF m 0 #[.val (.ref a0), .val (.ref a1)] [] := by first | (simp [entryFrame, mkF, argsToLocals, Value.category]; done) | rfl
def Q_sc2 (Z : State) (a0 : Addr) (a1 : Addr) (c0 : Int32) (c1 : Int32) (k0 : ClassId) (cs : Int32) (h0 : Heap) (n0 : Nat) (v : Option Value) (h : Heap) (L : List Loc) : Prop := ∃ b : Addr, ∃ kb : ClassId, v = none ∧ Fr n0 L ∧ Keep h0 h [a0] ∧ h0.size ≤ b ∧ Exa Z h a0 "java/lang/String" ∧ Fld Z h a0 "java/lang/String" "value" "[B" (.ref b) ∧ Fld Z h a0 "java/lang/String" "coder" "B" (.int 0) ∧ Arv Z h b kb .byte (2 : Int32) [(.int (c0.toInt8.toInt32)), (.int (c1.toInt8.toInt32))] (.int 0)
set_option maxRecDepth 65536 in
set_option maxHeartbeats 40000000 in
theorem sc2 (l : Launch) (Z : State) (av0 : Array Value) (hw : ∀ d ∈ tables_1, d.before av0 Z = true) (ws : List Jvm.Cond) (a0 : Addr) (a1 : Addr) (c0 : Int32) (c1 : Int32) (k0 : ClassId) (cs : Int32) (h0 : Heap) (n0 : Nat) (Z0 : n0 ≤ h0.size) (p0_O : Old Z n0 h0) (p1_S : Sta Z Z.heap "java/lang/String" "COMPACT_STRINGS" "Z" (.int cs)) (hcs : ¬ (cs = (0 : Int32))) (p3_E : Exa Z h0 a0 "java/lang/String") (p4_F : Fld Z h0 a0 "java/lang/String" "value" "[B" .null) (p5_F : Fld Z h0 a0 "java/lang/String" "coder" "B" (.int 0)) (p6_g : n0 ≤ a0) (p7_A : Arv Z h0 a1 k0 .char (2 : Int32) [(.int c0), (.int c1)] (.int 0)) (p8_ne : a0 ≠ a1) (hc_0 : ¬ ((255 : Int32) < c0)) (hc_1 : ¬ ((255 : Int32) < c1)) :
    MetFree l (⟨"java/lang/String", "<init>", "([C)V"⟩ : MethodName) (head1 (Jvm.Cond.code (⟨"java/lang/String", "<init>", "([C)V"⟩ : MethodName) jdk_42_method_3_code 2 none :: ws) ({ frames := 3, cells := 1, slots := 2, locals := 52 } : Room)) (fun a U => a = #[(.ref a0), (.ref a1)] ∧ Z.Warmed39 U.vm ∧ U.heap = h0) (fun _ _ _ _ _ => True) (fun _ U o U' => ∃ v L, o = .returned v ∧ Q_sc2 Z a0 a1 c0 c1 k0 cs h0 n0 v U'.heap L ∧ FrameEnd U o U' L ({ frames := 3, cells := 1, slots := 2, locals := 52 } : Room).cells ({ frames := 3, cells := 1, slots := 2, locals := 52 } : Room).slots) := by
  refine MetFree.of_bodySF (plainFor_of_name pn_java_lang_String) hisR ?_
  intro p e s m args below meth c s₁ Bd hml0 hP hK
  obtain ⟨rfl, hZ, hh⟩ := hP
  have hx := Bd.exec
  have hby := Bd.bytes
  have hml : c.maxLocals = 2 := hml0
  have hown : s.vm.findClass "java/lang/String" = some m.cls := findClass_of_methodNamed Bd.named
  have hnm := (name_of_methodNamed Bd.named Bd.method).1
  have X0 : Stand p l e ({ frames := 3, cells := 1, slots := 2, locals := 52 } : Room) s m #[(.ref a0), (.ref a1)] below meth c s₁ [] 0 0 := Stand.of_body Bd
  have e0 : s₁.heap = h0 := by rw [← hh, Bd.state]; rfl
  have N0 := Fr.nil n0
  have pre0 : ∀ tz_, Steps p.tables e below (s₁.setTop (mkF m 0 #[.val (.ref a0), .val (.ref a1)] [])) tz_ → Steps p.tables e below (s₁.setTop (entryFrame m #[(.ref a0), (.ref a1)] 2)) tz_ := fun tz_ kz_ => castTop (ef_sc2 m a0 a1) kz_
  have K0 : Keep h0 h0 [a0] := Keep.refl h0 [a0]
  obtain ⟨cl31, Ar31, -, qs31, qn31, -, -⟩ := id p7_A
  -- pc 6: String.init
  obtain ⟨_, _, ⟨T32, L32, k32, n32⟩, -, X32, ⟨Lc32, hQ32, l32, y32, z32⟩, st32⟩ := X0.specialBack hx (y := (⟨"java/lang/String", "<init>", "([CIILjava/lang/Void;)V"⟩ : MethodName)) rfl hown (mvT hZ (hw _ (mg (i := 35) rfl))) (mvT hZ (hw _ (mg (i := 36) rfl))) (mvT hZ (hw _ (mg (i := 37) rfl))) (by decide) (backOf (W := 0) (si2 l Z av0 hw [] a0 a1 c0 c1 k0 cs h0 n0 (own_le p0_O) p0_O p1_S (hcs : ¬ (cs = (0 : Int32))) p3_E p4_F p5_F p6_g p7_A p8_ne (hc_0 : ¬ ((255 : Int32) < c0)) (hc_1 : ¬ ((255 : Int32) < c1))) hZ (hw _ (mg (i := 37) rfl)) (hw _ (mg (i := 6) rfl)) (by decide) (by decide)) (g := (mkF m 6 #[.val (.ref a0), .val (.ref a1)] [.null, (.int 2), (.int 0), (.ref a1), (.ref a0)])) rfl (by rw [hml]; rfl) (Steps.refl _) (a := a0) (argsL := [(.ref a1), (.int 0), (.int 2), .null]) (rest := []) (lenOf pd_7 rfl) rfl (by show 2 * 0 + _ ≤ _; exact Nat.le_of_eq rfl) (hb hby d7_6) (fun vmx hWx => ⟨rfl, e0, (by decide : 0 + 1 ≤ _), (by decide : 0 + 2 ≤ _)⟩)
  dsimp only [Pt.U, Pt.locs, Pt.cells, Pt.slots] at X32 l32 y32 z32 st32 hQ32
  subst l32 y32 z32
  obtain ⟨b_32, kb_32, rv32, Nq32, Kq32, u32_0, u32_1, u32_2, u32_3, u32_4⟩ := hQ32
  subst rv32
  have N32 := Fr.app N0 Nq32
  have g_b_32 : n0 ≤ b_32 := Nat.le_trans (own_le p0_O) u32_0
  have sz_b_32 : h0.size ≤ b_32 := Nat.le_trans K0.1 u32_0
  have K33 := K0.trans Kq32 (allS (Or.inl (List.mem_of_getElem? (i := 0) rfl)) all0)
  have O33 := p0_O.keep Kq32 (allS p6_g all0)
  obtain ⟨fs, hrL, hrun, hended, hW, hsame⟩ := X32.leave (v := none) (fun _ => rfl)
  refine ⟨_, _, pre0 _ ?_, hrun, hended, _, _, rfl, ?_, ⟨_, rfl⟩, hW, hsame.mono (by decide) (by decide)⟩
  · show Steps p.tables e below (s₁.setTop (mkF m 0 #[.val (.ref a0), .val (.ref a1)] [])) _
    refine XS.aloadN X0.here hx rfl (hb hby d7_0) rfl rfl ?_
    refine XS.aloadN X0.here hx rfl (hb hby d7_1) rfl rfl ?_
    refine XS.iconst X0.here hx rfl (hb hby d7_2) ?_
    show Steps p.tables e below (s₁.setTop (mkF m 3 #[.val (.ref a0), .val (.ref a1)] [(.int 0), (.ref a1), (.ref a0)])) _
    refine XS.aloadN X0.here hx rfl (hb hby d7_3) rfl rfl ?_
    show Steps p.tables e below (s₁.setTop (mkF m 4 #[.val (.ref a0), .val (.ref a1)] [(.ref a1), (.int 0), (.ref a1), (.ref a0)])) _
    refine X0.arraylength hx (by rw [e0]; exact Ar31.1) (State.isArrayOf_alike hZ.alike Ar31.2.1) (g := (mkF m 4 #[.val (.ref a0), .val (.ref a1)] [(.ref a1), (.int 0), (.ref a1), (.ref a0)])) rfl rfl (hb hby d7_4) _ ?_
    rw [len_of qs31 qn31]
    refine XS.aconstNull X0.here hx rfl (hb hby d7_5) ?_
    show Steps p.tables e below (s₁.setTop (mkF m 6 #[.val (.ref a0), .val (.ref a1)] [.null, (.int 2), (.int 0), (.ref a1), (.ref a0)])) _
    refine st32.trans ?_
    show Steps p.tables e below (T32.setTop (mkF m 9 #[.val (.ref a0), .val (.ref a1)] [])) _
    exact X32.returnOut hx Bd.returns (hb hby d7_9) hrL
  · show Q_sc2 _ _ _ _ _ _ _ _ _ _  T32.heap _
    exact ⟨b_32, kb_32, rfl, N32, K33, sz_b_32, u32_1, u32_2, u32_3, u32_4⟩
theorem d8_8 : decode jdk_42_method_149_code 8 = .ok (.aload_n 0, 1) := by decide +kernel
theorem d8_9 : decode jdk_42_method_149_code 9 = .ok (.ldc 7, 2) := by decide +kernel
theorem d8_11 : decode jdk_42_method_149_code 11 = .ok (.getfield 9, 3) := by decide +kernel
theorem d8_14 : decode jdk_42_method_149_code 14 = .ok (.putfield 9, 3) := by decide +kernel
theorem d8_17 : decode jdk_42_method_149_code 17 = .ok (.aload_n 0, 1) := by decide +kernel
theorem d8_18 : decode jdk_42_method_149_code 18 = .ok (.ldc 7, 2) := by decide +kernel
theorem d8_20 : decode jdk_42_method_149_code 20 = .ok (.getfield 15, 3) := by decide +kernel
theorem d8_23 : decode jdk_42_method_149_code 23 = .ok (.putfield 15, 3) := by decide +kernel
theorem d8_26 : decode jdk_42_method_149_code 26 = .ok (.return_, 1) := by decide +kernel
theorem ef_si0 (m : MethodId) (a0 : Addr) (a1 : Addr) : entryFrame m #[(.ref a0), (.ref a1), (.int 0), (.int 0), .null] 6 = mkF m 0 #[.val (.ref a0), .val (.ref a1), .val (.int 0), .val (.int 0), .val .null, .unset] [] := by first | (simp [entryFrame, mkF, argsToLocals, Value.category]; done) | rfl
def Q_si0 (Z : State) (a0 : Addr) (a1 : Addr) (h0 : Heap) (n0 : Nat) (v : Option Value) (h : Heap) (vm : Vm) (L : List Loc) : Prop := ∃ b : Addr, ∃ kb : ClassId, v = none ∧ Fr n0 L ∧ Keep h0 h [a0] ∧ Exa Z h a0 "java/lang/String" ∧ Fld Z h a0 "java/lang/String" "value" "[B" (.ref b) ∧ Fld Z h a0 "java/lang/String" "coder" "B" (.int 0) ∧ Arv Z h b kb .byte (0 : Int32) [] (.int 0) ∧ Emp Z h vm
set_option maxRecDepth 65536 in
set_option maxHeartbeats 40000000 in
theorem si0 (l : Launch) (Z : State) (av0 : Array Value) (hw : ∀ d ∈ tables_1, d.before av0 Z = true) (ws : List Jvm.Cond) (a0 : Addr) (a1 : Addr) (h0 : Heap) (n0 : Nat) (Z0 : n0 ≤ h0.size) (p0_O : Old Z n0 h0) (p1_E : Exa Z h0 a0 "java/lang/String") (p2_F : Fld Z h0 a0 "java/lang/String" "value" "[B" .null) (p3_F : Fld Z h0 a0 "java/lang/String" "coder" "B" (.int 0)) (p4_g : n0 ≤ a0) (hheld : Jvm.Lit.constHeld Z "java/lang/String" 7) (hcw : Jvm.Lit.compactW.before av0 Z = true) :
    MetFree l (⟨"java/lang/String", "<init>", "([CIILjava/lang/Void;)V"⟩ : MethodName) (head1 (Jvm.Cond.code (⟨"java/lang/String", "<init>", "([CIILjava/lang/Void;)V"⟩ : MethodName) jdk_42_method_149_code 6 none :: ws) ({ frames := 1, cells := 2, slots := 4, locals := 12 } : Room)) (fun a U => a = #[(.ref a0), (.ref a1), (.int 0), (.int 0), .null] ∧ Z.Warmed39 U.vm ∧ U.heap = h0 ∧ Emp Z h0 U.vm) (fun _ _ _ _ _ => True) (fun _ U o U' => ∃ v L, o = .returned v ∧ Q_si0 Z a0 a1 h0 n0 v U'.heap U'.vm L ∧ ReturnedEndW U o U' L ({ frames := 1, cells := 2, slots := 4, locals := 12 } : Room).cells ({ frames := 1, cells := 2, slots := 4, locals := 12 } : Room).slots) := by
  refine MetFree.of_bodySF (plainFor_of_name pn_java_lang_String) hisR ?_
  intro p e s m args below meth c s₁ Bd hml0 hP hK
  obtain ⟨rfl, hZ, hh, hV0⟩ := hP
  have hx := Bd.exec
  have hby := Bd.bytes
  have hml : c.maxLocals = 6 := hml0
  have hown : s.vm.findClass "java/lang/String" = some m.cls := findClass_of_methodNamed Bd.named
  have hnm := (name_of_methodNamed Bd.named Bd.method).1
  have X0 : Stand p l e ({ frames := 1, cells := 2, slots := 4, locals := 12 } : Room) s m #[(.ref a0), (.ref a1), (.int 0), (.int 0), .null] below meth c s₁ [] 0 0 := Stand.of_body Bd
  have e0 : s₁.heap = h0 := by rw [← hh, Bd.state]; rfl
  have N0 := Fr.nil n0
  have pre0 : ∀ tz_, Steps p.tables e below (s₁.setTop (mkF m 0 #[.val (.ref a0), .val (.ref a1), .val (.int 0), .val (.int 0), .val .null, .unset] [])) tz_ → Steps p.tables e below (s₁.setTop (entryFrame m #[(.ref a0), (.ref a1), (.int 0), (.int 0), .null] 6)) tz_ := fun tz_ kz_ => castTop (ef_si0 m a0 a1) kz_
  have hS0 : s.Since s.vm 0 := (State.WarmedH.refl s).since 0
  have K0 : Keep h0 h0 [a0] := Keep.refl h0 [a0]
  have pre31 : ∀ tz_, Steps p.tables e below (s₁.setTop (mkF m 1 #[.val (.ref a0), .val (.ref a1), .val (.int 0), .val (.int 0), .val .null, .unset] [(.ref a0)])) tz_ → Steps p.tables e below (s₁.setTop (entryFrame m #[(.ref a0), (.ref a1), (.int 0), (.int 0), .null] 6)) tz_ := fun tz_ kk => pre0 tz_ (by
    show Steps p.tables e below (s₁.setTop (mkF m 0 #[.val (.ref a0), .val (.ref a1), .val (.int 0), .val (.int 0), .val .null, .unset] [])) _
    refine XS.aloadN X0.here hx rfl (hb hby d8_0) rfl rfl ?_
    show Steps p.tables e below (s₁.setTop (mkF m 1 #[.val (.ref a0), .val (.ref a1), .val (.int 0), .val (.int 0), .val .null, .unset] [(.ref a0)])) _
    exact kk)
  obtain ⟨T32, X32, e32, st32⟩ := initO X0 hx hZ hown (hw _ (mg (i := 23) rfl)) (hw _ (mg (i := 24) rfl)) (hw _ (mg (i := 25) rfl)) e0 (g := (mkF m 1 #[.val (.ref a0), .val (.ref a1), .val (.int 0), .val (.int 0), .val .null, .unset] [(.ref a0)])) rfl (by rw [hml]; rfl) rfl (hb hby d8_1) (by decide) (W := 0) (by show 2 * 0 + _ ≤ _; exact Nat.le_of_eq rfl) (by decide)
  have pre33 : ∀ tz_, Steps p.tables e below (T32.setTop (mkF m 9 #[.val (.ref a0), .val (.ref a1), .val (.int 0), .val (.int 0), .val .null, .unset] [(.ref a0)])) tz_ → Steps p.tables e below (s₁.setTop (entryFrame m #[(.ref a0), (.ref a1), (.int 0), (.int 0), .null] 6)) tz_ := fun tz_ kk => pre31 tz_ (by
    refine st32 _ ?_
    refine XS.iloadN X32.here hx rfl (hb hby d8_4) rfl ?_
    show Steps p.tables e below (T32.setTop (mkF m 5 #[.val (.ref a0), .val (.ref a1), .val (.int 0), .val (.int 0), .val .null, .unset] [(.int 0)])) _
    refine XS.ifNo X32.here hx rfl (hb hby d8_5) rfl ((if0 _ _).trans (teq (by decide : (0 : Int32) = (0 : Int32))).2) ?_
    refine XS.aloadN X32.here hx rfl (hb hby d8_8) rfl rfl ?_
    exact kk)
  rcases hV0 with I34 | ⟨la34, lb34, lk34, hL34, Le34, Lc34, Lv34, La34, hI34⟩
  · skip
    obtain ⟨la35, T35, h35, kk35, lb35, lk35, X35, e35, E35, hS35, hk35, hZ, hown, Le35, Lc35, Lv35, La35, -, -, hI35, hL35, st35⟩ := ldcSVL (s := s) (vm0 := s.vm) X32 hx hZ hown (hw _ (mg (i := 38) rfl)) (own_wS hw) e32 hS0 (Nat.zero_le _) (Fr.nil _) (fun b cl q => by rw [hh]; exact p0_O.2.2 b cl q) I34 (by simp) hheld hcw (vs := []) (z := 0) ⟨by simp, rfl⟩ (by decide) (by decide) (g := (mkF m 9 #[.val (.ref a0), .val (.ref a1), .val (.int 0), .val (.int 0), .val .null, .unset] [(.ref a0)])) rfl (hb hby d8_9) (n := 0) (by decide) (by decide) (by decide) (by decide)
    have K36 := K0.ext E35
    have O36 := p0_O.ext E35
    have f38 := (p2_F.ext E35)
    have nel37 : a0 ≠ la35 := Fld.ne f38 Lv35 nofun
    obtain ⟨T39, X39, e39, st39⟩ := getF X35 hx hZ hown (host := "") (Or.inl (hw _ (mg (i := 26) rfl))) Via.refl e35 Lv35 (g := (mkF m 11 #[.val (.ref a0), .val (.ref a1), .val (.int 0), .val (.int 0), .val .null, .unset] [(.ref la35), (.ref a0)])) rfl rfl (hb hby d8_11)
    have f40 := (p1_E.ext E35)
    obtain ⟨T41, h41, X41, e41, W41, st41⟩ := putF X39 hx hZ hown (host := "") (Or.inl (hw _ (mg (i := 26) rfl))) Via.refl e39 f38 f40 (Or.inr ⟨(hw _ (mg (i := 27) rfl)), rfl, hnm⟩) (hw _ (mg (i := 14) rfl)) (ty := (.array .byte)) (by decide) rfl rfl (g := (mkF m 14 #[.val (.ref a0), .val (.ref a1), .val (.int 0), .val (.int 0), .val .null, .unset] [(.ref lb35), (.ref a0)])) rfl rfl (hb hby d8_14)
    have Fw41 : Fld Z h41 a0 "java/lang/String" "value" "[B" (.ref lb35) := f38.same W41
    have N41 := Fr.snoc X41 N0 p4_g
    have K42 := K36.wr W41 (Or.inl (List.mem_of_getElem? (i := 0) rfl))
    have O42 := O36.wr W41 p4_g
    have f43 := (Lc35.other W41 (Or.inl (Ne.symm nel37)))
    obtain ⟨T44, X44, e44, st44⟩ := getF X41 hx hZ hown (host := "") (Or.inl (hw _ (mg (i := 28) rfl))) Via.refl e41 f43 (g := (mkF m 20 #[.val (.ref a0), .val (.ref a1), .val (.int 0), .val (.int 0), .val .null, .unset] [(.ref la35), (.ref a0)])) rfl rfl (hb hby d8_20)
    have f45 := ((p3_F.ext E35).other W41 (Or.inr (slot_ne (Or.inr (hw _ (mg (i := 29) rfl))) (Or.inr (hw _ (mg (i := 27) rfl))) (by decide) (t := .byte) (t' := (.array .byte)) (by decide) (by decide))))
    have f46 := (f40.wr W41)
    obtain ⟨T47, h47, X47, e47, W47, st47⟩ := putF X44 hx hZ hown (host := "") (Or.inl (hw _ (mg (i := 28) rfl))) Via.refl e44 f45 f46 (Or.inr ⟨(hw _ (mg (i := 29) rfl)), rfl, hnm⟩) (hw _ (mg (i := 14) rfl)) (ty := .byte) (by decide) rfl rfl (g := (mkF m 23 #[.val (.ref a0), .val (.ref a1), .val (.int 0), .val (.int 0), .val .null, .unset] [(.int 0), (.ref a0)])) rfl rfl (hb hby d8_23)
    have Fw47 : Fld Z h47 a0 "java/lang/String" "coder" "B" (.int 0) := f45.same W47
    have N47 := Fr.snoc X47 N41 p4_g
    have K48 := K42.wr W47 (Or.inl (List.mem_of_getElem? (i := 0) rfl))
    have O48 := O42.wr W47 p4_g
    obtain ⟨fs, hrL, hrun, hended, hend⟩ := X47.leaveW (s := s) (vm₁ := T35.vm) hS35 (by rw [e47]; exact (Nat.le_trans hk35 (Nat.le_trans (Nat.le_of_eq W41.size.symm) (Nat.le_of_eq W47.size.symm)))) (v := none) (fun _ => rfl)
    have f49 := (f46.wr W47)
    have f50 := (Fw41.other W47 (Or.inr (slot_ne (Or.inr (hw _ (mg (i := 27) rfl))) (Or.inr (hw _ (mg (i := 29) rfl))) (by decide) (t := (.array .byte)) (t' := .byte) (by decide) (by decide))))
    have ne51 : a0 ≠ lb35 := (ne_arv f40 (hw _ (mg (i := 14) rfl)) La35)
    have ne52 : lb35 ≠ a0 := (Ne.symm ne51)
    have f53 := ((La35.other W41 ne52).other W47 ne52)
    have f54 := ((Le35.wr W41).wr W47)
    have f55 := (f43.other W47 (Or.inl (Ne.symm nel37)))
    have f56 := ((Lv35.other W41 (Or.inl (Ne.symm nel37))).other W47 (Or.inl (Ne.symm nel37)))
    refine ⟨_, _, pre33 _ ?_, hrun, hended, _, _, rfl, ?_, ⟨_, rfl⟩, hend.2.1, hend.2.2.1, hend.2.2.2.mono (by decide) (by decide)⟩
    · show Steps p.tables e below (T32.setTop (mkF m 9 #[.val (.ref a0), .val (.ref a1), .val (.int 0), .val (.int 0), .val .null, .unset] [(.ref a0)])) _
      refine st35 _ ?_
      show Steps p.tables e below (T35.setTop (mkF m 11 #[.val (.ref a0), .val (.ref a1), .val (.int 0), .val (.int 0), .val .null, .unset] [(.ref la35), (.ref a0)])) _
      refine st39 _ ?_
      show Steps p.tables e below (T39.setTop (mkF m 14 #[.val (.ref a0), .val (.ref a1), .val (.int 0), .val (.int 0), .val .null, .unset] [(.ref lb35), (.ref a0)])) _
      refine st41 _ ?_
      refine XS.aloadN X41.here hx rfl (hb hby d8_17) rfl rfl ?_
      show Steps p.tables e below (T41.setTop (mkF m 18 #[.val (.ref a0), .val (.ref a1), .val (.int 0), .val (.int 0), .val .null, .unset] [(.ref a0)])) _
      refine ldcAgain (s := s) (vm0 := T35.vm) X41 hx hZ hown (hw _ (mg (i := 38) rfl)) hL35 (g := (mkF m 18 #[.val (.ref a0), .val (.ref a1), .val (.int 0), .val (.int 0), .val .null, .unset] [(.ref a0)])) rfl (hb hby d8_18) _ ?_
      show Steps p.tables e below (T41.setTop (mkF m 20 #[.val (.ref a0), .val (.ref a1), .val (.int 0), .val (.int 0), .val .null, .unset] [(.ref la35), (.ref a0)])) _
      refine st44 _ ?_
      show Steps p.tables e below (T44.setTop (mkF m 23 #[.val (.ref a0), .val (.ref a1), .val (.int 0), .val (.int 0), .val .null, .unset] [(.int 0), (.ref a0)])) _
      refine st47 _ ?_
      show Steps p.tables e below (T47.setTop (mkF m 26 #[.val (.ref a0), .val (.ref a1), .val (.int 0), .val (.int 0), .val .null, .unset] [])) _
      exact X47.returnOut hx Bd.returns (hb hby d8_26) hrL
    · show Q_si0 _ _ _ _ _ _  T47.heap T47.vm _
      rw [e47]
      exact ⟨lb35, lk35, rfl, N47, K48, f49, f50, Fw47, f53, Or.inr ⟨la35, lb35, lk35, lit_warm hL35 X47.warmed, f54, f55, f56, f53, ib_warm hI35 X47.warmed⟩⟩
  · skip
    have nel57 : a0 ≠ la34 := Fld.ne p2_F Lv34 nofun
    obtain ⟨T58, X58, e58, st58⟩ := getF X32 hx hZ hown (host := "") (Or.inl (hw _ (mg (i := 26) rfl))) Via.refl e32 Lv34 (g := (mkF m 11 #[.val (.ref a0), .val (.ref a1), .val (.int 0), .val (.int 0), .val .null, .unset] [(.ref la34), (.ref a0)])) rfl rfl (hb hby d8_11)
    obtain ⟨T59, h59, X59, e59, W59, st59⟩ := putF X58 hx hZ hown (host := "") (Or.inl (hw _ (mg (i := 26) rfl))) Via.refl e58 p2_F p1_E (Or.inr ⟨(hw _ (mg (i := 27) rfl)), rfl, hnm⟩) (hw _ (mg (i := 14) rfl)) (ty := (.array .byte)) (by decide) rfl rfl (g := (mkF m 14 #[.val (.ref a0), .val (.ref a1), .val (.int 0), .val (.int 0), .val .null, .unset] [(.ref lb34), (.ref a0)])) rfl rfl (hb hby d8_14)
    have Fw59 : Fld Z h59 a0 "java/lang/String" "value" "[B" (.ref lb34) := p2_F.same W59
    have N59 := Fr.snoc X59 N0 p4_g
    have K60 := K0.wr W59 (Or.inl (List.mem_of_getElem? (i := 0) rfl))
    have O60 := p0_O.wr W59 p4_g
    have f61 := (Lc34.other W59 (Or.inl (Ne.symm nel57)))
    obtain ⟨T62, X62, e62, st62⟩ := getF X59 hx hZ hown (host := "") (Or.inl (hw _ (mg (i := 28) rfl))) Via.refl e59 f61 (g := (mkF m 20 #[.val (.ref a0), .val (.ref a1), .val (.int 0), .val (.int 0), .val .null, .unset] [(.ref la34), (.ref a0)])) rfl rfl (hb hby d8_20)
    have f63 := (p3_F.other W59 (Or.inr (slot_ne (Or.inr (hw _ (mg (i := 29) rfl))) (Or.inr (hw _ (mg (i := 27) rfl))) (by decide) (t := .byte) (t' := (.array .byte)) (by decide) (by decide))))
    have f64 := (p1_E.wr W59)
    obtain ⟨T65, h65, X65, e65, W65, st65⟩ := putF X62 hx hZ hown (host := "") (Or.inl (hw _ (mg (i := 28) rfl))) Via.refl e62 f63 f64 (Or.inr ⟨(hw _ (mg (i := 29) rfl)), rfl, hnm⟩) (hw _ (mg (i := 14) rfl)) (ty := .byte) (by decide) rfl rfl (g := (mkF m 23 #[.val (.ref a0), .val (.ref a1), .val (.int 0), .val (.int 0), .val .null, .unset] [(.int 0), (.ref a0)])) rfl rfl (hb hby d8_23)
    have Fw65 : Fld Z h65 a0 "java/lang/String" "coder" "B" (.int 0) := f63.same W65
    have N65 := Fr.snoc X65 N59 p4_g
    have K66 := K60.wr W65 (Or.inl (List.mem_of_getElem? (i := 0) rfl))
    have O66 := O60.wr W65 p4_g
    obtain ⟨fs, hrL, hrun, hended, hend⟩ := X65.leaveW (s := s) (vm₁ := s.vm) hS0 (Nat.zero_le _) (v := none) (fun _ => rfl)
    have f67 := (f64.wr W65)
    have f68 := (Fw59.other W65 (Or.inr (slot_ne (Or.inr (hw _ (mg (i := 27) rfl))) (Or.inr (hw _ (mg (i := 29) rfl))) (by decide) (t := (.array .byte)) (t' := .byte) (by decide) (by decide))))
    have ne69 : a0 ≠ lb34 := (ne_arv p1_E (hw _ (mg (i := 14) rfl)) La34)
    have ne70 : lb34 ≠ a0 := (Ne.symm ne69)
    have f71 := ((La34.other W59 ne70).other W65 ne70)
    have f72 := ((Le34.wr W59).wr W65)
    have f73 := (f61.other W65 (Or.inl (Ne.symm nel57)))
    have f74 := ((Lv34.other W59 (Or.inl (Ne.symm nel57))).other W65 (Or.inl (Ne.symm nel57)))
    refine ⟨_, _, pre33 _ ?_, hrun, hended, _, _, rfl, ?_, ⟨_, rfl⟩, hend.2.1, hend.2.2.1, hend.2.2.2.mono (by decide) (by decide)⟩
    · show Steps p.tables e below (T32.setTop (mkF m 9 #[.val (.ref a0), .val (.ref a1), .val (.int 0), .val (.int 0), .val .null, .unset] [(.ref a0)])) _
      refine ldcAgain (s := s) (vm0 := s.vm) X32 hx hZ hown (hw _ (mg (i := 38) rfl)) hL34 (g := (mkF m 9 #[.val (.ref a0), .val (.ref a1), .val (.int 0), .val (.int 0), .val .null, .unset] [(.ref a0)])) rfl (hb hby d8_9) _ ?_
      show Steps p.tables e below (T32.setTop (mkF m 11 #[.val (.ref a0), .val (.ref a1), .val (.int 0), .val (.int 0), .val .null, .unset] [(.ref la34), (.ref a0)])) _
      refine st58 _ ?_
      show Steps p.tables e below (T58.setTop (mkF m 14 #[.val (.ref a0), .val (.ref a1), .val (.int 0), .val (.int 0), .val .null, .unset] [(.ref lb34), (.ref a0)])) _
      refine st59 _ ?_
      show Steps p.tables e below (T59.setTop (mkF m 17 #[.val (.ref a0), .val (.ref a1), .val (.int 0), .val (.int 0), .val .null, .unset] [])) _
      refine XS.aloadN X59.here hx rfl (hb hby d8_17) rfl rfl ?_
      show Steps p.tables e below (T59.setTop (mkF m 18 #[.val (.ref a0), .val (.ref a1), .val (.int 0), .val (.int 0), .val .null, .unset] [(.ref a0)])) _
      refine ldcAgain (s := s) (vm0 := s.vm) X59 hx hZ hown (hw _ (mg (i := 38) rfl)) hL34 (g := (mkF m 18 #[.val (.ref a0), .val (.ref a1), .val (.int 0), .val (.int 0), .val .null, .unset] [(.ref a0)])) rfl (hb hby d8_18) _ ?_
      show Steps p.tables e below (T59.setTop (mkF m 20 #[.val (.ref a0), .val (.ref a1), .val (.int 0), .val (.int 0), .val .null, .unset] [(.ref la34), (.ref a0)])) _
      refine st62 _ ?_
      show Steps p.tables e below (T62.setTop (mkF m 23 #[.val (.ref a0), .val (.ref a1), .val (.int 0), .val (.int 0), .val .null, .unset] [(.int 0), (.ref a0)])) _
      refine st65 _ ?_
      show Steps p.tables e below (T65.setTop (mkF m 26 #[.val (.ref a0), .val (.ref a1), .val (.int 0), .val (.int 0), .val .null, .unset] [])) _
      exact X65.returnOut hx Bd.returns (hb hby d8_26) hrL
    · show Q_si0 _ _ _ _ _ _  T65.heap T65.vm _
      rw [e65]
      exact ⟨lb34, lk34, rfl, N65, K66, f67, f68, Fw65, f71, Or.inr ⟨la34, lb34, lk34, lit_warm hL34 X65.warmed, f72, f73, f74, f71, ib_warm hI34 X65.warmed⟩⟩
theorem ef_sc0 (m : MethodId) (a0 : Addr) (a1 : Addr) : entryFrame m #[(.ref a0), (.ref a1)] 2 = mkF m 0 #[.val (.ref a0), .val (.ref a1)] [] := by first | (simp [entryFrame, mkF, argsToLocals, Value.category]; done) | rfl
def Q_sc0 (Z : State) (a0 : Addr) (a1 : Addr) (k0 : ClassId) (h0 : Heap) (n0 : Nat) (v : Option Value) (h : Heap) (vm : Vm) (L : List Loc) : Prop := ∃ b : Addr, ∃ kb : ClassId, v = none ∧ Fr n0 L ∧ Keep h0 h [a0] ∧ Exa Z h a0 "java/lang/String" ∧ Fld Z h a0 "java/lang/String" "value" "[B" (.ref b) ∧ Fld Z h a0 "java/lang/String" "coder" "B" (.int 0) ∧ Arv Z h b kb .byte (0 : Int32) [] (.int 0) ∧ Emp Z h vm
set_option maxRecDepth 65536 in
set_option maxHeartbeats 40000000 in
theorem sc0 (l : Launch) (Z : State) (av0 : Array Value) (hw : ∀ d ∈ tables_1, d.before av0 Z = true) (ws : List Jvm.Cond) (a0 : Addr) (a1 : Addr) (k0 : ClassId) (h0 : Heap) (n0 : Nat) (Z0 : n0 ≤ h0.size) (p0_O : Old Z n0 h0) (p1_E : Exa Z h0 a0 "java/lang/String") (p2_F : Fld Z h0 a0 "java/lang/String" "value" "[B" .null) (p3_F : Fld Z h0 a0 "java/lang/String" "coder" "B" (.int 0)) (p4_g : n0 ≤ a0) (p5_A : Arv Z h0 a1 k0 .char (0 : Int32) [] (.int 0)) (hheld : Jvm.Lit.constHeld Z "java/lang/String" 7) (hcw : Jvm.Lit.compactW.before av0 Z = true) :
    MetFree l (⟨"java/lang/String", "<init>", "([C)V"⟩ : MethodName) (head1 (Jvm.Cond.code (⟨"java/lang/String", "<init>", "([C)V"⟩ : MethodName) jdk_42_method_3_code 2 none :: ws) ({ frames := 2, cells := 2, slots := 4, locals := 29 } : Room)) (fun a U => a = #[(.ref a0), (.ref a1)] ∧ Z.Warmed39 U.vm ∧ U.heap = h0 ∧ Emp Z h0 U.vm) (fun _ _ _ _ _ => True) (fun _ U o U' => ∃ v L, o = .returned v ∧ Q_sc0 Z a0 a1 k0 h0 n0 v U'.heap U'.vm L ∧ ReturnedEndW U o U' L ({ frames := 2, cells := 2, slots := 4, locals := 29 } : Room).cells ({ frames := 2, cells := 2, slots := 4, locals := 29 } : Room).slots) := by
  refine MetFree.of_bodySF (plainFor_of_name pn_java_lang_String) hisR ?_
  intro p e s m args below meth c s₁ Bd hml0 hP hK
  obtain ⟨rfl, hZ, hh, hV0⟩ := hP
  have hx := Bd.exec
  have hby := Bd.bytes
  have hml : c.maxLocals = 2 := hml0
  have hown : s.vm.findClass "java/lang/String" = some m.cls := findClass_of_methodNamed Bd.named
  have hnm := (name_of_methodNamed Bd.named Bd.method).1
  have X0 : Stand p l e ({ frames := 2, cells := 2, slots := 4, locals := 29 } : Room) s m #[(.ref a0), (.ref a1)] below meth c s₁ [] 0 0 := Stand.of_body Bd
  have e0 : s₁.heap = h0 := by rw [← hh, Bd.state]; rfl
  have N0 := Fr.nil n0
  have pre0 : ∀ tz_, Steps p.tables e below (s₁.setTop (mkF m 0 #[.val (.ref a0), .val (.ref a1)] [])) tz_ → Steps p.tables e below (s₁.setTop (entryFrame m #[(.ref a0), (.ref a1)] 2)) tz_ := fun tz_ kz_ => castTop (ef_sc0 m a0 a1) kz_
  have hS0 : s.Since s.vm 0 := (State.WarmedH.refl s).since 0
  have K0 : Keep h0 h0 [a0] := Keep.refl h0 [a0]
  obtain ⟨cl31, Ar31, -, qs31, qn31, -, -⟩ := id p5_A
  have pre32 : ∀ tz_, Steps p.tables e below (s₁.setTop (mkF m 6 #[.val (.ref a0), .val (.ref a1)] [.null, (.int 0), (.int 0), (.ref a1), (.ref a0)])) tz_ → Steps p.tables e below (s₁.setTop (entryFrame m #[(.ref a0), (.ref a1)] 2)) tz_ := fun tz_ kk => pre0 tz_ (by
    show Steps p.tables e below (s₁.setTop (mkF m 0 #[.val (.ref a0), .val (.ref a1)] [])) _
    refine XS.aloadN X0.here hx rfl (hb hby d7_0) rfl rfl ?_
    refine XS.aloadN X0.here hx rfl (hb hby d7_1) rfl rfl ?_
    refine XS.iconst X0.here hx rfl (hb hby d7_2) ?_
    show Steps p.tables e below (s₁.setTop (mkF m 3 #[.val (.ref a0), .val (.ref a1)] [(.int 0), (.ref a1), (.ref a0)])) _
    refine XS.aloadN X0.here hx rfl (hb hby d7_3) rfl rfl ?_
    show Steps p.tables e below (s₁.setTop (mkF m 4 #[.val (.ref a0), .val (.ref a1)] [(.ref a1), (.int 0), (.ref a1), (.ref a0)])) _
    refine X0.arraylength hx (by rw [e0]; exact Ar31.1) (State.isArrayOf_alike hZ.alike Ar31.2.1) (g := (mkF m 4 #[.val (.ref a0), .val (.ref a1)] [(.ref a1), (.int 0), (.ref a1), (.ref a0)])) rfl rfl (hb hby d7_4) _ ?_
    rw [len_of qs31 qn31]
    refine XS.aconstNull X0.here hx rfl (hb hby d7_5) ?_
    show Steps p.tables e below (s₁.setTop (mkF m 6 #[.val (.ref a0), .val (.ref a1)] [.null, (.int 0), (.int 0), (.ref a1), (.ref a0)])) _
    exact kk)
  -- pc 6: String.init
  obtain ⟨_, _, ⟨T33, L33, k33, n33⟩, -, X33, hS33, hg33, ⟨Lc33, hQ33, l33, y33, z33⟩, st33⟩ := X0.specialBackS hx (y := (⟨"java/lang/String", "<init>", "([CIILjava/lang/Void;)V"⟩ : MethodName)) rfl hown (mvT hZ (hw _ (mg (i := 35) rfl))) (mvT hZ (hw _ (mg (i := 36) rfl))) (mvT hZ (hw _ (mg (i := 37) rfl))) (by decide) (backOfSV (W := 0) (si0 l Z av0 hw [] a0 a1 h0 n0 (own_le p0_O) p0_O p1_E p2_F p3_F p4_g (hheld : Jvm.Lit.constHeld Z "java/lang/String" 7) (hcw : Jvm.Lit.compactW.before av0 Z = true)) hZ (hw _ (mg (i := 37) rfl)) (hw _ (mg (i := 6) rfl)) (by decide) (by decide)) (g := (mkF m 6 #[.val (.ref a0), .val (.ref a1)] [.null, (.int 0), (.int 0), (.ref a1), (.ref a0)])) rfl (by rw [hml]; rfl) (Steps.refl _) (a := a0) (argsL := [(.ref a1), (.int 0), (.int 0), .null]) (rest := []) (lenOf pd_7 rfl) rfl (by show 2 * 0 + _ ≤ _; exact Nat.le_of_eq rfl) (hb hby d7_6) (fun vmx hWx => ⟨rfl, e0, (by decide : 0 + 2 ≤ _), (by decide : 0 + 4 ≤ _), (hV0.warm hWx)⟩)
  dsimp only [Pt.U, Pt.locs, Pt.cells, Pt.slots] at X33 l33 y33 z33 st33 hQ33 hS33 hg33
  subst l33 y33 z33
  obtain ⟨X33, hS33, hZ, hown⟩ := rebS (s := s) (vm0 := s.vm) hS0 (Nat.zero_le _) X33 hS33 hg33 hZ hown
  obtain ⟨b_33, kb_33, rv33, Nq33, Kq33, u33_0, u33_1, u33_2, u33_3, hV33⟩ := hQ33
  subst rv33
  have N33 := Fr.app N0 Nq33
  have K34 := K0.trans Kq33 (allS (Or.inl (List.mem_of_getElem? (i := 0) rfl)) all0)
  have O34 := p0_O.keep Kq33 (allS p4_g all0)
  have hk33 : T33.heap.size ≤ T33.heap.size := Nat.le_refl _
  obtain ⟨fs, hrL, hrun, hended, hend⟩ := X33.leaveW (s := s) (vm₁ := T33.vm) hS33 hk33 (v := none) (fun _ => rfl)
  refine ⟨_, _, pre32 _ ?_, hrun, hended, _, _, rfl, ?_, ⟨_, rfl⟩, hend.2.1, hend.2.2.1, hend.2.2.2.mono (by decide) (by decide)⟩
  · refine st33.trans ?_
    show Steps p.tables e below (T33.setTop (mkF m 9 #[.val (.ref a0), .val (.ref a1)] [])) _
    exact X33.returnOut hx Bd.returns (hb hby d7_9) hrL
  · show Q_sc0 _ _ _ _ _ _ _  T33.heap T33.vm _
    exact ⟨b_33, kb_33, rfl, N33, K34, u33_0, u33_1, u33_2, u33_3, (hV33.warm X33.warmed)⟩
theorem d1_0 : decode method_2_code 0 = .ok (.iload_n 1, 1) := by decide +kernel
theorem d1_1 : decode method_2_code 1 = .ok (.ifCond .ne 14, 3) := by decide +kernel
theorem d1_4 : decode method_2_code 4 = .ok (.new 7, 3) := by decide +kernel
theorem d1_7 : decode method_2_code 7 = .ok (.dup, 1) := by decide +kernel
theorem d1_8 : decode method_2_code 8 = .ok (.iconst 0, 1) := by decide +kernel
theorem d1_9 : decode method_2_code 9 = .ok (.newarray .char, 2) := by decide +kernel
theorem d1_11 : decode method_2_code 11 = .ok (.invokespecial 9, 3) := by decide +kernel
theorem pd_6 : parseMethodDescriptor "([C)V" = some ⟨[(.array .char)], none⟩ := by decide +kernel
theorem d1_14 : decode method_2_code 14 = .ok (.areturn, 1) := by decide +kernel
theorem pn_com_example_ledgerline_ledgerline_KeyToStringPinLaw : plainName "com/example/ledgerline/ledgerline/KeyToStringPinLaw" = true := by first | (simp [plainName, overriddenIn]; done) | decide +kernel
theorem ef_mk0 (m : MethodId) (xx : Int32) : entryFrame m #[(.int xx), (.int 0)] 3 = mkF m 0 #[.val (.int xx), .val (.int 0), .unset] [] := by first | (simp [entryFrame, mkF, argsToLocals, Value.category]; done) | rfl
def Q_mk0 (Z : State) (xx : Int32) (h0 : Heap) (n0 : Nat) (v : Option Value) (h : Heap) (vm : Vm) (L : List Loc) : Prop := ∃ b : Addr, ∃ vb : Addr, ∃ kb : ClassId, v = some (.ref b) ∧ Fr n0 L ∧ Keep h0 h [] ∧ h0.size ≤ b ∧ Exa Z h b "java/lang/String" ∧ Fld Z h b "java/lang/String" "coder" "B" (.int 0) ∧ Fld Z h b "java/lang/String" "value" "[B" (.ref vb) ∧ Arv Z h vb kb .byte (0 : Int32) [] (.int 0) ∧ Emp Z h vm
set_option maxRecDepth 65536 in
set_option maxHeartbeats 40000000 in
theorem mk0 (l : Launch) (Z : State) (av0 : Array Value) (hw : ∀ d ∈ tables_1, d.before av0 Z = true) (ws : List Jvm.Cond) (xx : Int32) (h0 : Heap) (n0 : Nat) (Z0 : n0 ≤ h0.size) (p0_O : Old Z n0 h0) (hheld : Jvm.Lit.constHeld Z "java/lang/String" 7) (hcw : Jvm.Lit.compactW.before av0 Z = true) :
    MetFree l (⟨"com/example/ledgerline/ledgerline/KeyToStringPinLaw", "mk", "(II)Ljava/lang/String;"⟩ : MethodName) (head1 (Jvm.Cond.code (⟨"com/example/ledgerline/ledgerline/KeyToStringPinLaw", "mk", "(II)Ljava/lang/String;"⟩ : MethodName) method_2_code 3 (some (.object "java/lang/String")) :: ws) ({ frames := 3, cells := 4, slots := 8, locals := 43 } : Room)) (fun a U => a = #[(.int xx), (.int 0)] ∧ Z.Warmed39 U.vm ∧ U.heap = h0 ∧ Emp Z h0 U.vm) (fun _ _ _ _ _ => True) (fun _ U o U' => ∃ v L, o = .returned v ∧ Q_mk0 Z xx h0 n0 v U'.heap U'.vm L ∧ ReturnedEndW U o U' L ({ frames := 3, cells := 4, slots := 8, locals := 43 } : Room).cells ({ frames := 3, cells := 4, slots := 8, locals := 43 } : Room).slots) := by
  refine MetFree.of_bodySF (plainFor_of_name pn_com_example_ledgerline_ledgerline_KeyToStringPinLaw) hisR ?_
  intro p e s m args below meth c s₁ Bd hml0 hP hK
  obtain ⟨rfl, hZ, hh, hV0⟩ := hP
  have hx := Bd.exec
  have hby := Bd.bytes
  have hml : c.maxLocals = 3 := hml0
  have hown : s.vm.findClass "com/example/ledgerline/ledgerline/KeyToStringPinLaw" = some m.cls := findClass_of_methodNamed Bd.named
  have hnm := (name_of_methodNamed Bd.named Bd.method).1
  have X0 : Stand p l e ({ frames := 3, cells := 4, slots := 8, locals := 43 } : Room) s m #[(.int xx), (.int 0)] below meth c s₁ [] 0 0 := Stand.of_body Bd
  have e0 : s₁.heap = h0 := by rw [← hh, Bd.state]; rfl
  have N0 := Fr.nil n0
  have pre0 : ∀ tz_, Steps p.tables e below (s₁.setTop (mkF m 0 #[.val (.int xx), .val (.int 0), .unset] [])) tz_ → Steps p.tables e below (s₁.setTop (entryFrame m #[(.int xx), (.int 0)] 3)) tz_ := fun tz_ kz_ => castTop (ef_mk0 m xx) kz_
  have hS0 : s.Since s.vm 0 := (State.WarmedH.refl s).since 0
  have K0 : Keep h0 h0 [] := Keep.refl h0 []
  obtain ⟨T31, h31, X31, e31, E31, A31, D31, -, st31⟩ := newO X0 hx hZ hown (hw _ (mg (i := 30) rfl)) (hw _ (mg (i := 14) rfl)) (hw _ (mg (i := 6) rfl)) e0 (g := (mkF m 4 #[.val (.int xx), .val (.int 0), .unset] [])) rfl (hb hby d1_4) (by decide) (by decide)
  obtain ⟨b31, q31⟩ : ∃ z, z = h0.size := ⟨_, rfl⟩
  rw [← q31] at A31 D31 st31
  have g_b31 : n0 ≤ b31 := Nat.le_trans (own_le p0_O) (Nat.le_of_eq q31.symm)
  have sz_b31 : h0.size ≤ b31 := Nat.le_trans K0.1 (Nat.le_of_eq q31.symm)
  have K32 := K0.ext E31
  have O32 := p0_O.ext E31
  have F31_value : Fld Z h31 b31 "java/lang/String" "value" "[B" .null := D31 (Or.inr (hw _ (mg (i := 27) rfl))) (ty := (.array .byte)) (by decide)
  have F31_coder : Fld Z h31 b31 "java/lang/String" "coder" "B" (.int 0) := D31 (Or.inr (hw _ (mg (i := 29) rfl))) (ty := .byte) (by decide)
  obtain ⟨T33, h33, k33, X33, e33, E33, A33, st33⟩ := newP X31 hx hZ (hw _ (mg (i := 31) rfl)) e31 (g := (mkF m 9 #[.val (.int xx), .val (.int 0), .unset] [(.int 0), (.ref b31), (.ref b31)])) rfl (hb hby d1_9) rfl (by decide) (cap := 0) (by decide) (by decide) (by decide) (by decide)
  obtain ⟨b33, q33⟩ : ∃ z, z = h31.size := ⟨_, rfl⟩
  rw [← q33] at A33 st33
  have g_b33 : n0 ≤ b33 := Nat.le_trans (own_le O32) (Nat.le_of_eq q33.symm)
  have sz_b33 : h0.size ≤ b33 := Nat.le_trans K32.1 (Nat.le_of_eq q33.symm)
  have V33 : Arv Z h33 b33 k33 .char (0 : Int32) [] (.int 0) := Arv.new A33 (by decide)
  have K34 := K32.ext E33
  have O34 := O32.ext E33
  have pre35 : ∀ tz_, Steps p.tables e below (T33.setTop (mkF m 11 #[.val (.int xx), .val (.int 0), .unset] [(.ref b33), (.ref b31), (.ref b31)])) tz_ → Steps p.tables e below (s₁.setTop (entryFrame m #[(.int xx), (.int 0)] 3)) tz_ := fun tz_ kk => pre0 tz_ (by
    show Steps p.tables e below (s₁.setTop (mkF m 0 #[.val (.int xx), .val (.int 0), .unset] [])) _
    refine XS.iloadN X0.here hx rfl (hb hby d1_0) rfl ?_
    show Steps p.tables e below (s₁.setTop (mkF m 1 #[.val (.int xx), .val (.int 0), .unset] [(.int 0)])) _
    refine XS.ifNo X0.here hx rfl (hb hby d1_1) rfl ((if0 _ _).trans (teq (by decide : (0 : Int32) = (0 : Int32))).2) ?_
    show Steps p.tables e below (s₁.setTop (mkF m 4 #[.val (.int xx), .val (.int 0), .unset] [])) _
    refine st31 _ ?_
    show Steps p.tables e below (T31.setTop (mkF m 7 #[.val (.int xx), .val (.int 0), .unset] [(.ref b31)])) _
    refine XS.dup X31.here hx rfl (hb hby d1_7) rfl rfl ?_
    refine XS.iconst X31.here hx rfl (hb hby d1_8) ?_
    show Steps p.tables e below (T31.setTop (mkF m 9 #[.val (.int xx), .val (.int 0), .unset] [(.int 0), (.ref b31), (.ref b31)])) _
    refine st33 _ ?_
    show Steps p.tables e below (T33.setTop (mkF m 11 #[.val (.int xx), .val (.int 0), .unset] [(.ref b33), (.ref b31), (.ref b31)])) _
    exact kk)
  have f36 := (A31.ext E33)
  have f37 := (F31_value.ext E33)
  have f38 := (F31_coder.ext E33)
  -- pc 11: String.init
  obtain ⟨_, _, ⟨T39, L39, k39, n39⟩, -, X39, hS39, hg39, ⟨Lc39, hQ39, l39, y39, z39⟩, st39⟩ := X33.specialBackS hx (y := (⟨"java/lang/String", "<init>", "([C)V"⟩ : MethodName)) rfl hown (mvT hZ (hw _ (mg (i := 32) rfl))) (mvT hZ (hw _ (mg (i := 33) rfl))) (mvT hZ (hw _ (mg (i := 34) rfl))) (by decide) (backOfSV (W := 1) (sc0 l Z av0 hw [] b31 b33 k33 h33 n0 (own_le O34) O34 f36 f37 f38 g_b31 V33 (hheld : Jvm.Lit.constHeld Z "java/lang/String" 7) (hcw : Jvm.Lit.compactW.before av0 Z = true)) hZ (hw _ (mg (i := 34) rfl)) (hw _ (mg (i := 6) rfl)) (by decide) (by decide)) (g := (mkF m 11 #[.val (.int xx), .val (.int 0), .unset] [(.ref b33), (.ref b31), (.ref b31)])) rfl (by rw [hml]; rfl) (Steps.refl _) (a := b31) (argsL := [(.ref b33)]) (rest := [(.ref b31)]) (lenOf pd_6 rfl) rfl (by show 2 * 0 + _ ≤ _; exact Nat.le_of_eq rfl) (hb hby d1_11) (fun vmx hWx => ⟨rfl, e33, (by decide : 2 + 2 ≤ _), (by decide : 4 + 4 ≤ _), (((hV0.ext E31).ext E33).warm hWx)⟩)
  dsimp only [Pt.U, Pt.locs, Pt.cells, Pt.slots] at X39 l39 y39 z39 st39 hQ39 hS39 hg39
  subst l39 y39 z39
  obtain ⟨X39, hS39, hZ, hown⟩ := rebS (s := s) (vm0 := s.vm) hS0 (Nat.zero_le _) X39 hS39 hg39 hZ hown
  obtain ⟨b_39, kb_39, rv39, Nq39, Kq39, u39_0, u39_1, u39_2, u39_3, hV39⟩ := hQ39
  subst rv39
  have N39 := Fr.app N0 Nq39
  have K40 := K34.trans Kq39 (allS (Or.inr sz_b31) all0)
  have O40 := O34.keep Kq39 (allS g_b31 all0)
  have hk39 : T39.heap.size ≤ T39.heap.size := Nat.le_refl _
  obtain ⟨fs, hrL, hrun, hended, hend⟩ := X39.leaveW (s := s) (vm₁ := T39.vm) hS39 hk39 (v := some (.ref b31)) (fun h => by rw [Bd.returns] at h; cases h)
  refine ⟨_, _, pre35 _ ?_, hrun, hended, _, _, rfl, ?_, ⟨_, rfl⟩, hend.2.1, hend.2.2.1, hend.2.2.2.mono (by decide) (by decide)⟩
  · refine st39.trans ?_
    show Steps p.tables e below (T39.setTop (mkF m 14 #[.val (.int xx), .val (.int 0), .unset] [(.ref b31)])) _
    exact retOut X39 hx Bd.returns rfl (Or.inr (Or.inr (Or.inr (Or.inr ⟨rfl, rfl, rfl⟩)))) (hb hby d1_14) hrL
  · show Q_mk0 _ _ _ _ _  T39.heap T39.vm _
    exact ⟨b31, b_39, kb_39, rfl, N39, K40, sz_b31, u39_0, u39_2, u39_1, u39_3, (hV39.warm X39.warmed)⟩
theorem d1_15 : decode method_2_code 15 = .ok (.iload_n 1, 1) := by decide +kernel
theorem d1_16 : decode method_2_code 16 = .ok (.iconst 1, 1) := by decide +kernel
theorem d1_17 : decode method_2_code 17 = .ok (.if_icmp .ne 13, 3) := by decide +kernel
theorem d1_20 : decode method_2_code 20 = .ok (.iload_n 0, 1) := by decide +kernel
theorem d1_21 : decode method_2_code 21 = .ok (.sipush 255, 3) := by decide +kernel
theorem d1_24 : decode method_2_code 24 = .ok (.iand, 1) := by decide +kernel
theorem d1_25 : decode method_2_code 25 = .ok (.i2c, 1) := by decide +kernel
theorem d1_26 : decode method_2_code 26 = .ok (.invokestatic 12, 3) := by decide +kernel
theorem pd_1 : parseMethodDescriptor "(C)Ljava/lang/String;" = some ⟨[.char], some (.object "java/lang/String")⟩ := by decide +kernel
theorem d1_29 : decode method_2_code 29 = .ok (.areturn, 1) := by decide +kernel
theorem ef_mk1 (m : MethodId) (xx : Int32) : entryFrame m #[(.int xx), (.int 1)] 3 = mkF m 0 #[.val (.int xx), .val (.int 1), .unset] [] := by first | (simp [entryFrame, mkF, argsToLocals, Value.category]; done) | rfl
def Q_mk1 (Z : State) (xx : Int32) (cs : Int32) (h0 : Heap) (n0 : Nat) (v : Option Value) (h : Heap) (L : List Loc) : Prop := ∃ b : Addr, ∃ vb : Addr, ∃ kb : ClassId, v = some (.ref b) ∧ Fr n0 L ∧ Keep h0 h [] ∧ h0.size ≤ b ∧ Exa Z h b "java/lang/String" ∧ Fld Z h b "java/lang/String" "coder" "B" (.int 0) ∧ Fld Z h b "java/lang/String" "value" "[B" (.ref vb) ∧ Arv Z h vb kb .byte (1 : Int32) [(.int ((xx &&& (255 : Int32)).toInt8.toInt32))] (.int 0)
set_option maxRecDepth 65536 in
set_option maxHeartbeats 40000000 in
theorem mk1 (l : Launch) (Z : State) (av0 : Array Value) (hw : ∀ d ∈ tables_1, d.before av0 Z = true) (ws : List Jvm.Cond) (xx : Int32) (cs : Int32) (h0 : Heap) (n0 : Nat) (Z0 : n0 ≤ h0.size) (p0_O : Old Z n0 h0) (p1_S : Sta Z Z.heap "java/lang/String" "COMPACT_STRINGS" "Z" (.int cs)) (hcs : ¬ (cs = (0 : Int32))) :
    MetFree l (⟨"com/example/ledgerline/ledgerline/KeyToStringPinLaw", "mk", "(II)Ljava/lang/String;"⟩ : MethodName) (head1 (Jvm.Cond.code (⟨"com/example/ledgerline/ledgerline/KeyToStringPinLaw", "mk", "(II)Ljava/lang/String;"⟩ : MethodName) method_2_code 3 (some (.object "java/lang/String")) :: ws) ({ frames := 3, cells := 2, slots := 5, locals := 39 } : Room)) (fun a U => a = #[(.int xx), (.int 1)] ∧ Z.Warmed39 U.vm ∧ U.heap = h0) (fun _ _ _ _ _ => True) (fun _ U o U' => ∃ v L, o = .returned v ∧ Q_mk1 Z xx cs h0 n0 v U'.heap L ∧ FrameEnd U o U' L ({ frames := 3, cells := 2, slots := 5, locals := 39 } : Room).cells ({ frames := 3, cells := 2, slots := 5, locals := 39 } : Room).slots) := by
  refine MetFree.of_bodySF (plainFor_of_name pn_com_example_ledgerline_ledgerline_KeyToStringPinLaw) hisR ?_
  intro p e s m args below meth c s₁ Bd hml0 hP hK
  obtain ⟨rfl, hZ, hh⟩ := hP
  have hx := Bd.exec
  have hby := Bd.bytes
  have hml : c.maxLocals = 3 := hml0
  have hown : s.vm.findClass "com/example/ledgerline/ledgerline/KeyToStringPinLaw" = some m.cls := findClass_of_methodNamed Bd.named
  have hnm := (name_of_methodNamed Bd.named Bd.method).1
  have X0 : Stand p l e ({ frames := 3, cells := 2, slots := 5, locals := 39 } : Room) s m #[(.int xx), (.int 1)] below meth c s₁ [] 0 0 := Stand.of_body Bd
  have e0 : s₁.heap = h0 := by rw [← hh, Bd.state]; rfl
  have N0 := Fr.nil n0
  have pre0 : ∀ tz_, Steps p.tables e below (s₁.setTop (mkF m 0 #[.val (.int xx), .val (.int 1), .unset] [])) tz_ → Steps p.tables e below (s₁.setTop (entryFrame m #[(.int xx), (.int 1)] 3)) tz_ := fun tz_ kz_ => castTop (ef_mk1 m xx) kz_
  have K0 : Keep h0 h0 [] := Keep.refl h0 []
  -- pc 26: String.valueOf
  obtain ⟨_, _, ⟨T31, L31, k31, n31⟩, -, X31, ⟨Lc31, hQ31, l31, y31, z31⟩, st31⟩ := Jvm.LawKit.callS X0 hx (y := (⟨"java/lang/String", "valueOf", "(C)Ljava/lang/String;"⟩ : MethodName)) hown (mvT hZ (hw _ (mg (i := 4) rfl))) (mvT hZ (hw _ (mg (i := 5) rfl))) (mvT hZ (hw _ (mg (i := 6) rfl))) (mvT hZ (hw _ (mg (i := 7) rfl))) (by decide) (backOf (W := 0) (rm2 l Z av0 hw [] (xx &&& (255 : Int32)) cs h0 n0 (own_le p0_O) p0_O p1_S (hcs : ¬ (cs = (0 : Int32))) (own_255 xx : ¬ ((255 : Int32) < (xx &&& (255 : Int32))))) hZ (hw _ (mg (i := 7) rfl)) (hw _ (mg (i := 6) rfl)) (by decide) (by decide)) (g := (mkF m 26 #[.val (.int xx), .val (.int 1), .unset] [(.int (xx &&& (255 : Int32)))])) rfl (by rw [hml]; rfl) (argsL := [(.int (xx &&& (255 : Int32)))]) (rest := []) (lenOf pd_1 rfl) rfl (by show 2 * 0 + _ ≤ _; exact Nat.le_of_eq rfl) (hb hby d1_26) (fun vmx hWx => ⟨rfl, e0, (by decide : 0 + 2 ≤ _), (by decide : 0 + 5 ≤ _)⟩)
  dsimp only [Pt.U, Pt.locs, Pt.cells, Pt.slots] at X31 l31 y31 z31 st31 hQ31
  subst l31 y31 z31
  obtain ⟨b_31, vb_31, kb_31, rv31, Nq31, Kq31, u31_0, u31_1, u31_2, u31_3, u31_4, u31_5, u31_6⟩ := hQ31
  subst rv31
  have N31 := Fr.app N0 Nq31
  have g_b_31 : n0 ≤ b_31 := Nat.le_trans (own_le p0_O) u31_0
  have sz_b_31 : h0.size ≤ b_31 := Nat.le_trans K0.1 u31_0
  have g_vb_31 : n0 ≤ vb_31 := Nat.le_trans (own_le p0_O) u31_1
  have sz_vb_31 : h0.size ≤ vb_31 := Nat.le_trans K0.1 u31_1
  have K32 := K0.trans Kq31 all0
  have O32 := p0_O.keep Kq31 all0
  obtain ⟨fs, hrL, hrun, hended, hW, hsame⟩ := X31.leave (v := some (.ref b_31)) (fun h => by rw [Bd.returns] at h; cases h)
  refine ⟨_, _, pre0 _ ?_, hrun, hended, _, _, rfl, ?_, ⟨_, rfl⟩, hW, hsame.mono (by decide) (by decide)⟩
  · show Steps p.tables e below (s₁.setTop (mkF m 0 #[.val (.int xx), .val (.int 1), .unset] [])) _
    refine XS.iloadN X0.here hx rfl (hb hby d1_0) rfl ?_
    show Steps p.tables e below (s₁.setTop (mkF m 1 #[.val (.int xx), .val (.int 1), .unset] [(.int 1)])) _
    refine XS.ifYes X0.here hx rfl (pc0 := 1) (pc' := 15) rfl (hb hby d1_1) rfl ((if0 _ _).trans (feq (by decide : ¬ ((1 : Int32) = (0 : Int32)))).2) (by decide) (by decide) ?_
    refine XS.iloadN X0.here hx rfl (hb hby d1_15) rfl ?_
    show Steps p.tables e below (s₁.setTop (mkF m 16 #[.val (.int xx), .val (.int 1), .unset] [(.int 1)])) _
    refine XS.iconst X0.here hx rfl (hb hby d1_16) ?_
    show Steps p.tables e below (s₁.setTop (mkF m 17 #[.val (.int xx), .val (.int 1), .unset] [(.int 1), (.int 1)])) _
    refine XS.icmpNo X0.here hx rfl (hb hby d1_17) rfl (teq (by decide : (1 : Int32) = (1 : Int32))).2 ?_
    refine XS.iloadN X0.here hx rfl (hb hby d1_20) rfl ?_
    refine XS.sipush X0.here hx rfl (hb hby d1_21) ?_
    show Steps p.tables e below (s₁.setTop (mkF m 24 #[.val (.int xx), .val (.int 1), .unset] [(.int 255), (.int xx)])) _
    refine XS.iand X0.here hx rfl (hb hby d1_24) rfl ?_
    show Steps p.tables e below (s₁.setTop (mkF m 25 #[.val (.int xx), .val (.int 1), .unset] [(.int (xx &&& (255 : Int32)))])) _
    refine XS.i2c X0.here hx rfl (hb hby d1_25) rfl ?_
    show Steps p.tables e below (s₁.setTop (mkF m 26 #[.val (.int xx), .val (.int 1), .unset] [(.int ((xx &&& (255 : Int32)).toUInt32.toUInt16.toUInt32.toInt32))])) _
    rw [i2c_mask]
    show Steps p.tables e below (s₁.setTop (mkF m 26 #[.val (.int xx), .val (.int 1), .unset] [(.int (xx &&& (255 : Int32)))])) _
    refine st31 _ ?_
    show Steps p.tables e below (T31.setTop (mkF m 29 #[.val (.int xx), .val (.int 1), .unset] [(.ref b_31)])) _
    exact retOut X31 hx Bd.returns rfl (Or.inr (Or.inr (Or.inr (Or.inr ⟨rfl, rfl, rfl⟩)))) (hb hby d1_29) hrL
  · show Q_mk1 _ _ _ _ _ _  T31.heap _
    exact ⟨b_31, vb_31, kb_31, rfl, N31, K32, sz_b_31, u31_3, u31_5, u31_4, u31_6⟩
theorem d1_30 : decode method_2_code 30 = .ok (.iconst 2, 1) := by decide +kernel
theorem d1_31 : decode method_2_code 31 = .ok (.newarray .char, 2) := by decide +kernel
theorem d1_33 : decode method_2_code 33 = .ok (.astore_n 2, 1) := by decide +kernel
theorem d1_34 : decode method_2_code 34 = .ok (.aload_n 2, 1) := by decide +kernel
theorem d1_35 : decode method_2_code 35 = .ok (.iconst 0, 1) := by decide +kernel
theorem d1_36 : decode method_2_code 36 = .ok (.iload_n 0, 1) := by decide +kernel
theorem d1_37 : decode method_2_code 37 = .ok (.sipush 255, 3) := by decide +kernel
theorem d1_40 : decode method_2_code 40 = .ok (.iand, 1) := by decide +kernel
theorem d1_41 : decode method_2_code 41 = .ok (.i2c, 1) := by decide +kernel
theorem d1_42 : decode method_2_code 42 = .ok (.castore, 1) := by decide +kernel
theorem d1_43 : decode method_2_code 43 = .ok (.aload_n 2, 1) := by decide +kernel
theorem d1_44 : decode method_2_code 44 = .ok (.iconst 1, 1) := by decide +kernel
theorem d1_45 : decode method_2_code 45 = .ok (.iload_n 0, 1) := by decide +kernel
theorem d1_46 : decode method_2_code 46 = .ok (.bipush 8, 2) := by decide +kernel
theorem d1_48 : decode method_2_code 48 = .ok (.iushr, 1) := by decide +kernel
theorem d1_49 : decode method_2_code 49 = .ok (.sipush 255, 3) := by decide +kernel
theorem d1_52 : decode method_2_code 52 = .ok (.iand, 1) := by decide +kernel
theorem d1_53 : decode method_2_code 53 = .ok (.i2c, 1) := by decide +kernel
theorem d1_54 : decode method_2_code 54 = .ok (.castore, 1) := by decide +kernel
theorem d1_55 : decode method_2_code 55 = .ok (.new 7, 3) := by decide +kernel
theorem d1_58 : decode method_2_code 58 = .ok (.dup, 1) := by decide +kernel
theorem d1_59 : decode method_2_code 59 = .ok (.aload_n 2, 1) := by decide +kernel
theorem d1_60 : decode method_2_code 60 = .ok (.invokespecial 9, 3) := by decide +kernel
theorem d1_63 : decode method_2_code 63 = .ok (.areturn, 1) := by decide +kernel
theorem ef_mk2 (m : MethodId) (xx : Int32) : entryFrame m #[(.int xx), (.int 2)] 3 = mkF m 0 #[.val (.int xx), .val (.int 2), .unset] [] := by first | (simp [entryFrame, mkF, argsToLocals, Value.category]; done) | rfl
def Q_mk2 (Z : State) (xx : Int32) (cs : Int32) (h0 : Heap) (n0 : Nat) (v : Option Value) (h : Heap) (L : List Loc) : Prop := ∃ b : Addr, ∃ vb : Addr, ∃ kb : ClassId, v = some (.ref b) ∧ Fr n0 L ∧ Keep h0 h [] ∧ h0.size ≤ b ∧ Exa Z h b "java/lang/String" ∧ Fld Z h b "java/lang/String" "coder" "B" (.int 0) ∧ Fld Z h b "java/lang/String" "value" "[B" (.ref vb) ∧ Arv Z h vb kb .byte (2 : Int32) [(.int ((xx &&& (255 : Int32)).toInt8.toInt32)), (.int ((((xx.toUInt32 >>> ((8 : Int32) &&& 31).toUInt32).toInt32) &&& (255 : Int32)).toInt8.toInt32))] (.int 0)
set_option maxRecDepth 65536 in
set_option maxHeartbeats 40000000 in
theorem mk2 (l : Launch) (Z : State) (av0 : Array Value) (hw : ∀ d ∈ tables_1, d.before av0 Z = true) (ws : List Jvm.Cond) (xx : Int32) (cs : Int32) (h0 : Heap) (n0 : Nat) (Z0 : n0 ≤ h0.size) (p0_O : Old Z n0 h0) (p1_S : Sta Z Z.heap "java/lang/String" "COMPACT_STRINGS" "Z" (.int cs)) (hcs : ¬ (cs = (0 : Int32))) :
    MetFree l (⟨"com/example/ledgerline/ledgerline/KeyToStringPinLaw", "mk", "(II)Ljava/lang/String;"⟩ : MethodName) (head1 (Jvm.Cond.code (⟨"com/example/ledgerline/ledgerline/KeyToStringPinLaw", "mk", "(II)Ljava/lang/String;"⟩ : MethodName) method_2_code 3 (some (.object "java/lang/String")) :: ws) ({ frames := 4, cells := 3, slots := 8, locals := 66 } : Room)) (fun a U => a = #[(.int xx), (.int 2)] ∧ Z.Warmed39 U.vm ∧ U.heap = h0) (fun _ _ _ _ _ => True) (fun _ U o U' => ∃ v L, o = .returned v ∧ Q_mk2 Z xx cs h0 n0 v U'.heap L ∧ FrameEnd U o U' L ({ frames := 4, cells := 3, slots := 8, locals := 66 } : Room).cells ({ frames := 4, cells := 3, slots := 8, locals := 66 } : Room).slots) := by
  refine MetFree.of_bodySF (plainFor_of_name pn_com_example_ledgerline_ledgerline_KeyToStringPinLaw) hisR ?_
  intro p e s m args below meth c s₁ Bd hml0 hP hK
  obtain ⟨rfl, hZ, hh⟩ := hP
  have hx := Bd.exec
  have hby := Bd.bytes
  have hml : c.maxLocals = 3 := hml0
  have hown : s.vm.findClass "com/example/ledgerline/ledgerline/KeyToStringPinLaw" = some m.cls := findClass_of_methodNamed Bd.named
  have hnm := (name_of_methodNamed Bd.named Bd.method).1
  have X0 : Stand p l e ({ frames := 4, cells := 3, slots := 8, locals := 66 } : Room) s m #[(.int xx), (.int 2)] below meth c s₁ [] 0 0 := Stand.of_body Bd
  have e0 : s₁.heap = h0 := by rw [← hh, Bd.state]; rfl
  have N0 := Fr.nil n0
  have pre0 : ∀ tz_, Steps p.tables e below (s₁.setTop (mkF m 0 #[.val (.int xx), .val (.int 2), .unset] [])) tz_ → Steps p.tables e below (s₁.setTop (entryFrame m #[(.int xx), (.int 2)] 3)) tz_ := fun tz_ kz_ => castTop (ef_mk2 m xx) kz_
  have K0 : Keep h0 h0 [] := Keep.refl h0 []
  obtain ⟨T31, h31, k31, X31, e31, E31, A31, st31⟩ := newP X0 hx hZ (hw _ (mg (i := 31) rfl)) e0 (g := (mkF m 31 #[.val (.int xx), .val (.int 2), .unset] [(.int 2)])) rfl (hb hby d1_31) rfl (by decide) (cap := 2) (by decide) (by decide) (by decide) (by decide)
  obtain ⟨b31, q31⟩ : ∃ z, z = h0.size := ⟨_, rfl⟩
  rw [← q31] at A31 st31
  have g_b31 : n0 ≤ b31 := Nat.le_trans (own_le p0_O) (Nat.le_of_eq q31.symm)
  have sz_b31 : h0.size ≤ b31 := Nat.le_trans K0.1 (Nat.le_of_eq q31.symm)
  have V31 : Arv Z h31 b31 k31 .char (2 : Int32) [(.int 0), (.int 0)] (.int 0) := (Arv.new A31 (by decide)).pad (pad_rep [] (.int 0) 2)
  have K32 := K0.ext E31
  have O32 := p0_O.ext E31
  obtain ⟨cl33, Ar33, qk33, qs33, qn33, qh33, qg33⟩ := id V31
  have hin33 : ¬ ((0 : Int32) < 0 ∨ cl33.slots.size ≤ ((0 : Int32)).toNatClampNeg) := inb_of qs33 ⟨by decide, by decide⟩
  obtain ⟨T34, h34, X34, e34, W34, st34⟩ := stC X31 hx hZ e31 Ar33 (j := (0 : Int32)) hin33 (g := (mkF m 42 #[.val (.int xx), .val (.int 2), .val (.ref b31)] [(.int (xx &&& (255 : Int32))), (.int 0), (.ref b31)])) rfl rfl (hb hby d1_42)
  have V34 : Arv Z h34 b31 k31 .char (2 : Int32) [(.int ((xx &&& (255 : Int32)).toUInt32.toUInt16.toUInt32.toInt32)), (.int 0)] (.int 0) := Arv.set Ar33 qk33 qs33 qn33 qh33 qg33 (fits_nar_char _) W34 0 rfl (Nat.le_of_ble_eq_true rfl)
  rw [i2c_mask] at V34
  have N34 := Fr.snoc X34 N0 g_b31
  have K35 := K32.wr W34 (Or.inr sz_b31)
  have O35 := O32.wr W34 g_b31
  obtain ⟨cl36, Ar36, qk36, qs36, qn36, qh36, qg36⟩ := id V34
  have hin36 : ¬ ((1 : Int32) < 0 ∨ cl36.slots.size ≤ ((1 : Int32)).toNatClampNeg) := inb_of qs36 ⟨by decide, by decide⟩
  obtain ⟨T37, h37, X37, e37, W37, st37⟩ := stC X34 hx hZ e34 Ar36 (j := (1 : Int32)) hin36 (g := (mkF m 54 #[.val (.int xx), .val (.int 2), .val (.ref b31)] [(.int (((xx.toUInt32 >>> ((8 : Int32) &&& 31).toUInt32).toInt32) &&& (255 : Int32))), (.int 1), (.ref b31)])) rfl rfl (hb hby d1_54)
  have V37 : Arv Z h37 b31 k31 .char (2 : Int32) [(.int (xx &&& (255 : Int32))), (.int ((((xx.toUInt32 >>> ((8 : Int32) &&& 31).toUInt32).toInt32) &&& (255 : Int32)).toUInt32.toUInt16.toUInt32.toInt32))] (.int 0) := Arv.set Ar36 qk36 qs36 qn36 qh36 qg36 (fits_nar_char _) W37 1 rfl (Nat.le_of_ble_eq_true rfl)
  rw [i2c_mask] at V37
  have N37 := Fr.snoc X37 N34 g_b31
  have K38 := K35.wr W37 (Or.inr sz_b31)
  have O38 := O35.wr W37 g_b31
  obtain ⟨T39, h39, X39, e39, E39, A39, D39, -, st39⟩ := newO X37 hx hZ hown (hw _ (mg (i := 30) rfl)) (hw _ (mg (i := 14) rfl)) (hw _ (mg (i := 6) rfl)) e37 (g := (mkF m 55 #[.val (.int xx), .val (.int 2), .val (.ref b31)] [])) rfl (hb hby d1_55) (by decide) (by decide)
  obtain ⟨b39, q39⟩ : ∃ z, z = h37.size := ⟨_, rfl⟩
  rw [← q39] at A39 D39 st39
  have g_b39 : n0 ≤ b39 := Nat.le_trans (own_le O38) (Nat.le_of_eq q39.symm)
  have sz_b39 : h0.size ≤ b39 := Nat.le_trans K38.1 (Nat.le_of_eq q39.symm)
  have K40 := K38.ext E39
  have O40 := O38.ext E39
  have F39_value : Fld Z h39 b39 "java/lang/String" "value" "[B" .null := D39 (Or.inr (hw _ (mg (i := 27) rfl))) (ty := (.array .byte)) (by decide)
  have F39_coder : Fld Z h39 b39 "java/lang/String" "coder" "B" (.int 0) := D39 (Or.inr (hw _ (mg (i := 29) rfl))) (ty := .byte) (by decide)
  have f41 := (V37.ext E39)
  have ne42 : b39 ≠ b31 := (Ne.symm (Nat.ne_of_lt (Nat.lt_of_lt_of_le V37.lt (Nat.le_of_eq q39.symm))))
  -- pc 60: String.init
  obtain ⟨_, _, ⟨T43, L43, k43, n43⟩, -, X43, ⟨Lc43, hQ43, l43, y43, z43⟩, st43⟩ := X39.specialBack hx (y := (⟨"java/lang/String", "<init>", "([C)V"⟩ : MethodName)) rfl hown (mvT hZ (hw _ (mg (i := 32) rfl))) (mvT hZ (hw _ (mg (i := 33) rfl))) (mvT hZ (hw _ (mg (i := 34) rfl))) (by decide) (backOf (W := 1) (sc2 l Z av0 hw [] b39 b31 (xx &&& (255 : Int32)) (((xx.toUInt32 >>> ((8 : Int32) &&& 31).toUInt32).toInt32) &&& (255 : Int32)) k31 cs h39 n0 (own_le O40) O40 p1_S (hcs : ¬ (cs = (0 : Int32))) A39 F39_value F39_coder g_b39 f41 ne42 (own_255 xx : ¬ ((255 : Int32) < (xx &&& (255 : Int32)))) (own_255 ((xx.toUInt32 >>> ((8 : Int32) &&& 31).toUInt32).toInt32) : ¬ ((255 : Int32) < (((xx.toUInt32 >>> ((8 : Int32) &&& 31).toUInt32).toInt32) &&& (255 : Int32))))) hZ (hw _ (mg (i := 34) rfl)) (hw _ (mg (i := 6) rfl)) (by decide) (by decide)) (g := (mkF m 60 #[.val (.int xx), .val (.int 2), .val (.ref b31)] [(.ref b31), (.ref b39), (.ref b39)])) rfl (by rw [hml]; rfl) (Steps.refl _) (a := b39) (argsL := [(.ref b31)]) (rest := [(.ref b39)]) (lenOf pd_6 rfl) rfl (by show 2 * 0 + _ ≤ _; exact Nat.le_of_eq rfl) (hb hby d1_60) (fun vmx hWx => ⟨rfl, e39, (by decide : 2 + 1 ≤ _), (by decide : 6 + 2 ≤ _)⟩)
  dsimp only [Pt.U, Pt.locs, Pt.cells, Pt.slots] at X43 l43 y43 z43 st43 hQ43
  subst l43 y43 z43
  obtain ⟨b_43, kb_43, rv43, Nq43, Kq43, u43_0, u43_1, u43_2, u43_3, u43_4⟩ := hQ43
  subst rv43
  have N43 := Fr.app N37 Nq43
  have g_b_43 : n0 ≤ b_43 := Nat.le_trans (own_le O40) u43_0
  have sz_b_43 : h0.size ≤ b_43 := Nat.le_trans K40.1 u43_0
  have K44 := K40.trans Kq43 (allS (Or.inr sz_b39) all0)
  have O44 := O40.keep Kq43 (allS g_b39 all0)
  obtain ⟨fs, hrL, hrun, hended, hW, hsame⟩ := X43.leave (v := some (.ref b39)) (fun h => by rw [Bd.returns] at h; cases h)
  refine ⟨_, _, pre0 _ ?_, hrun, hended, _, _, rfl, ?_, ⟨_, rfl⟩, hW, hsame.mono (by decide) (by decide)⟩
  · show Steps p.tables e below (s₁.setTop (mkF m 0 #[.val (.int xx), .val (.int 2), .unset] [])) _
    refine XS.iloadN X0.here hx rfl (hb hby d1_0) rfl ?_
    show Steps p.tables e below (s₁.setTop (mkF m 1 #[.val (.int xx), .val (.int 2), .unset] [(.int 2)])) _
    refine XS.ifYes X0.here hx rfl (pc0 := 1) (pc' := 15) rfl (hb hby d1_1) rfl ((if0 _ _).trans (feq (by decide : ¬ ((2 : Int32) = (0 : Int32)))).2) (by decide) (by decide) ?_
    refine XS.iloadN X0.here hx rfl (hb hby d1_15) rfl ?_
    show Steps p.tables e below (s₁.setTop (mkF m 16 #[.val (.int xx), .val (.int 2), .unset] [(.int 2)])) _
    refine XS.iconst X0.here hx rfl (hb hby d1_16) ?_
    show Steps p.tables e below (s₁.setTop (mkF m 17 #[.val (.int xx), .val (.int 2), .unset] [(.int 1), (.int 2)])) _
    refine XS.icmpYes X0.here hx rfl (pc0 := 17) (pc' := 30) rfl (hb hby d1_17) rfl (feq (by decide : ¬ ((2 : Int32) = (1 : Int32)))).2 (by decide) (by decide) ?_
    refine XS.iconst X0.here hx rfl (hb hby d1_30) ?_
    show Steps p.tables e below (s₁.setTop (mkF m 31 #[.val (.int xx), .val (.int 2), .unset] [(.int 2)])) _
    refine st31 _ ?_
    show Steps p.tables e below (T31.setTop (mkF m 33 #[.val (.int xx), .val (.int 2), .unset] [(.ref b31)])) _
    refine XS.astoreN X31.here hx rfl (hb hby d1_33) rfl rfl (l' := #[.val (.int xx), .val (.int 2), .val (.ref b31)]) rfl ?_
    refine XS.aloadN X31.here hx rfl (hb hby d1_34) rfl rfl ?_
    refine XS.iconst X31.here hx rfl (hb hby d1_35) ?_
    refine XS.iloadN X31.here hx rfl (hb hby d1_36) rfl ?_
    show Steps p.tables e below (T31.setTop (mkF m 37 #[.val (.int xx), .val (.int 2), .val (.ref b31)] [(.int xx), (.int 0), (.ref b31)])) _
    refine XS.sipush X31.here hx rfl (hb hby d1_37) ?_
    show Steps p.tables e below (T31.setTop (mkF m 40 #[.val (.int xx), .val (.int 2), .val (.ref b31)] [(.int 255), (.int xx), (.int 0), (.ref b31)])) _
    refine XS.iand X31.here hx rfl (hb hby d1_40) rfl ?_
    show Steps p.tables e below (T31.setTop (mkF m 41 #[.val (.int xx), .val (.int 2), .val (.ref b31)] [(.int (xx &&& (255 : Int32))), (.int 0), (.ref b31)])) _
    refine XS.i2c X31.here hx rfl (hb hby d1_41) rfl ?_
    show Steps p.tables e below (T31.setTop (mkF m 42 #[.val (.int xx), .val (.int 2), .val (.ref b31)] [(.int ((xx &&& (255 : Int32)).toUInt32.toUInt16.toUInt32.toInt32)), (.int 0), (.ref b31)])) _
    rw [i2c_mask]
    show Steps p.tables e below (T31.setTop (mkF m 42 #[.val (.int xx), .val (.int 2), .val (.ref b31)] [(.int (xx &&& (255 : Int32))), (.int 0), (.ref b31)])) _
    refine st34 _ ?_
    show Steps p.tables e below (T34.setTop (mkF m 43 #[.val (.int xx), .val (.int 2), .val (.ref b31)] [])) _
    refine XS.aloadN X34.here hx rfl (hb hby d1_43) rfl rfl ?_
    refine XS.iconst X34.here hx rfl (hb hby d1_44) ?_
    refine XS.iloadN X34.here hx rfl (hb hby d1_45) rfl ?_
    refine XS.bipush X34.here hx rfl (hb hby d1_46) ?_
    show Steps p.tables e below (T34.setTop (mkF m 48 #[.val (.int xx), .val (.int 2), .val (.ref b31)] [(.int 8), (.int xx), (.int 1), (.ref b31)])) _
    refine XS.iushr X34.here hx rfl (hb hby d1_48) rfl ?_
    refine XS.sipush X34.here hx rfl (hb hby d1_49) ?_
    show Steps p.tables e below (T34.setTop (mkF m 52 #[.val (.int xx), .val (.int 2), .val (.ref b31)] [(.int 255), (.int ((xx.toUInt32 >>> ((8 : Int32) &&& 31).toUInt32).toInt32)), (.int 1), (.ref b31)])) _
    refine XS.iand X34.here hx rfl (hb hby d1_52) rfl ?_
    show Steps p.tables e below (T34.setTop (mkF m 53 #[.val (.int xx), .val (.int 2), .val (.ref b31)] [(.int (((xx.toUInt32 >>> ((8 : Int32) &&& 31).toUInt32).toInt32) &&& (255 : Int32))), (.int 1), (.ref b31)])) _
    refine XS.i2c X34.here hx rfl (hb hby d1_53) rfl ?_
    show Steps p.tables e below (T34.setTop (mkF m 54 #[.val (.int xx), .val (.int 2), .val (.ref b31)] [(.int ((((xx.toUInt32 >>> ((8 : Int32) &&& 31).toUInt32).toInt32) &&& (255 : Int32)).toUInt32.toUInt16.toUInt32.toInt32)), (.int 1), (.ref b31)])) _
    rw [i2c_mask]
    show Steps p.tables e below (T34.setTop (mkF m 54 #[.val (.int xx), .val (.int 2), .val (.ref b31)] [(.int (((xx.toUInt32 >>> ((8 : Int32) &&& 31).toUInt32).toInt32) &&& (255 : Int32))), (.int 1), (.ref b31)])) _
    refine st37 _ ?_
    show Steps p.tables e below (T37.setTop (mkF m 55 #[.val (.int xx), .val (.int 2), .val (.ref b31)] [])) _
    refine st39 _ ?_
    refine XS.dup X39.here hx rfl (hb hby d1_58) rfl rfl ?_
    refine XS.aloadN X39.here hx rfl (hb hby d1_59) rfl rfl ?_
    show Steps p.tables e below (T39.setTop (mkF m 60 #[.val (.int xx), .val (.int 2), .val (.ref b31)] [(.ref b31), (.ref b39), (.ref b39)])) _
    refine st43.trans ?_
    show Steps p.tables e below (T43.setTop (mkF m 63 #[.val (.int xx), .val (.int 2), .val (.ref b31)] [(.ref b39)])) _
    exact retOut X43 hx Bd.returns rfl (Or.inr (Or.inr (Or.inr (Or.inr ⟨rfl, rfl, rfl⟩)))) (hb hby d1_63) hrL
  · show Q_mk2 _ _ _ _ _ _  T43.heap _
    exact ⟨b39, b_43, kb_43, rfl, N43, K44, sz_b39, u43_1, u43_3, u43_2, u43_4⟩
theorem d9_0 : decode prog_59_method_1_code 0 = .ok (.aload_n 0, 1) := by decide +kernel
theorem d9_1 : decode prog_59_method_1_code 1 = .ok (.invokespecial 1, 3) := by decide +kernel
theorem pd_5 : parseMethodDescriptor "()V" = some ⟨[], none⟩ := by decide +kernel
theorem d9_4 : decode prog_59_method_1_code 4 = .ok (.aload_n 0, 1) := by decide +kernel
theorem d9_5 : decode prog_59_method_1_code 5 = .ok (.aload_n 1, 1) := by decide +kernel
theorem d9_6 : decode prog_59_method_1_code 6 = .ok (.putfield 7, 3) := by decide +kernel
theorem d9_9 : decode prog_59_method_1_code 9 = .ok (.aload_n 0, 1) := by decide +kernel
theorem d9_10 : decode prog_59_method_1_code 10 = .ok (.aload_n 2, 1) := by decide +kernel
theorem d9_11 : decode prog_59_method_1_code 11 = .ok (.putfield 13, 3) := by decide +kernel
theorem d9_14 : decode prog_59_method_1_code 14 = .ok (.aload_n 0, 1) := by decide +kernel
theorem d9_15 : decode prog_59_method_1_code 15 = .ok (.aload_n 3, 1) := by decide +kernel
theorem d9_16 : decode prog_59_method_1_code 16 = .ok (.putfield 16, 3) := by decide +kernel
theorem d9_19 : decode prog_59_method_1_code 19 = .ok (.return_, 1) := by decide +kernel
theorem pn_com_example_ledgerline_ledgerline_Settlement_Key : plainName "com/example/ledgerline/ledgerline/Settlement$Key" = true := by first | (simp [plainName, overriddenIn]; done) | decide +kernel
theorem ef_kin (m : MethodId) (a0 : Addr) (a1 : Addr) (a2 : Addr) (a3 : Addr) : entryFrame m #[(.ref a0), (.ref a1), (.ref a2), (.ref a3)] 4 = mkF m 0 #[.val (.ref a0), .val (.ref a1), .val (.ref a2), .val (.ref a3)] [] := by first | (simp [entryFrame, mkF, argsToLocals, Value.category]; done) | rfl
def Q_kin (Z : State) (a0 : Addr) (a1 : Addr) (a2 : Addr) (a3 : Addr) (h0 : Heap) (n0 : Nat) (v : Option Value) (h : Heap) (L : List Loc) : Prop := v = none ∧ Fr n0 L ∧ Keep h0 h [a0] ∧ Exa Z h a0 "com/example/ledgerline/ledgerline/Settlement$Key" ∧ Fld Z h a0 "com/example/ledgerline/ledgerline/Settlement$Key" "pts" "Ljava/lang/String;" (.ref a1) ∧ Fld Z h a0 "com/example/ledgerline/ledgerline/Settlement$Key" "processingEntity" "Ljava/lang/String;" (.ref a2) ∧ Fld Z h a0 "com/example/ledgerline/ledgerline/Settlement$Key" "settlementId" "Ljava/lang/String;" (.ref a3)
set_option maxRecDepth 65536 in
set_option maxHeartbeats 40000000 in
theorem kin (l : Launch) (Z : State) (av0 : Array Value) (hw : ∀ d ∈ tables_1, d.before av0 Z = true) (ws : List Jvm.Cond) (a0 : Addr) (a1 : Addr) (a2 : Addr) (a3 : Addr) (h0 : Heap) (n0 : Nat) (Z0 : n0 ≤ h0.size) (p0_E : Exa Z h0 a0 "com/example/ledgerline/ledgerline/Settlement$Key") (p1_F : Fld Z h0 a0 "com/example/ledgerline/ledgerline/Settlement$Key" "pts" "Ljava/lang/String;" .null) (p2_F : Fld Z h0 a0 "com/example/ledgerline/ledgerline/Settlement$Key" "processingEntity" "Ljava/lang/String;" .null) (p3_F : Fld Z h0 a0 "com/example/ledgerline/ledgerline/Settlement$Key" "settlementId" "Ljava/lang/String;" .null) (p4_g : n0 ≤ a0) :
    MetFree l (⟨"com/example/ledgerline/ledgerline/Settlement$Key", "<init>", "(Ljava/lang/String;Ljava/lang/String;Ljava/lang/String;)V"⟩ : MethodName) (head1 (Jvm.Cond.code (⟨"com/example/ledgerline/ledgerline/Settlement$Key", "<init>", "(Ljava/lang/String;Ljava/lang/String;Ljava/lang/String;)V"⟩ : MethodName) prog_59_method_1_code 4 none :: ws) ({ frames := 2, cells := 0, slots := 0, locals := 24 } : Room)) (fun a U => a = #[(.ref a0), (.ref a1), (.ref a2), (.ref a3)] ∧ Z.Warmed39 U.vm ∧ U.heap = h0) (fun _ _ _ _ _ => True) (fun _ U o U' => ∃ v L, o = .returned v ∧ Q_kin Z a0 a1 a2 a3 h0 n0 v U'.heap L ∧ FrameEnd U o U' L ({ frames := 2, cells := 0, slots := 0, locals := 24 } : Room).cells ({ frames := 2, cells := 0, slots := 0, locals := 24 } : Room).slots) := by
  refine MetFree.of_bodySF (plainFor_of_name pn_com_example_ledgerline_ledgerline_Settlement_Key) hisR ?_
  intro p e s m args below meth c s₁ Bd hml0 hP hK
  obtain ⟨rfl, hZ, hh⟩ := hP
  have hx := Bd.exec
  have hby := Bd.bytes
  have hml : c.maxLocals = 4 := hml0
  have hown : s.vm.findClass "com/example/ledgerline/ledgerline/Settlement$Key" = some m.cls := findClass_of_methodNamed Bd.named
  have hnm := (name_of_methodNamed Bd.named Bd.method).1
  have X0 : Stand p l e ({ frames := 2, cells := 0, slots := 0, locals := 24 } : Room) s m #[(.ref a0), (.ref a1), (.ref a2), (.ref a3)] below meth c s₁ [] 0 0 := Stand.of_body Bd
  have e0 : s₁.heap = h0 := by rw [← hh, Bd.state]; rfl
  have N0 := Fr.nil n0
  have pre0 : ∀ tz_, Steps p.tables e below (s₁.setTop (mkF m 0 #[.val (.ref a0), .val (.ref a1), .val (.ref a2), .val (.ref a3)] [])) tz_ → Steps p.tables e below (s₁.setTop (entryFrame m #[(.ref a0), (.ref a1), (.ref a2), (.ref a3)] 4)) tz_ := fun tz_ kz_ => castTop (ef_kin m a0 a1 a2 a3) kz_
  have K0 : Keep h0 h0 [a0] := Keep.refl h0 [a0]
  -- pc 1: Record.init
  obtain ⟨_, _, ⟨T31, L31, k31, n31⟩, -, X31, ⟨Lc31, hQ31, l31, y31, z31⟩, st31⟩ := X0.specialBack hx (y := (⟨"java/lang/Record", "<init>", "()V"⟩ : MethodName)) rfl hown (mvT hZ (hw _ (mg (i := 47) rfl))) (mvT hZ (hw _ (mg (i := 48) rfl))) (mvT hZ (hw _ (mg (i := 51) rfl))) (by decide) (backOf (W := 0) (rm10 l Z av0 hw [] a0 h0 n0 (Nat.le_trans Z0 K0.1) ) hZ (hw _ (mg (i := 51) rfl)) (hw _ (mg (i := 50) rfl)) (by decide) (by decide)) (g := (mkF m 1 #[.val (.ref a0), .val (.ref a1), .val (.ref a2), .val (.ref a3)] [(.ref a0)])) rfl (by rw [hml]; rfl) (Steps.refl _) (a := a0) (argsL := []) (rest := []) (lenOf pd_5 rfl) rfl (by show 2 * 0 + _ ≤ _; exact Nat.le_of_eq rfl) (hb hby d9_1) (fun vmx hWx => ⟨rfl, e0, (by decide : 0 + 0 ≤ _), (by decide : 0 + 0 ≤ _)⟩)
  dsimp only [Pt.U, Pt.locs, Pt.cells, Pt.slots] at X31 l31 y31 z31 st31 hQ31
  subst l31 y31 z31
  obtain ⟨rv31, Nq31, Kq31⟩ := hQ31
  subst rv31
  have N31 := Fr.app N0 Nq31
  obtain ⟨T32, h32, X32, e32, W32, st32⟩ := putF X31 hx hZ hown (host := "") (Or.inl (hw _ (mg (i := 53) rfl))) Via.refl Kq31 p1_F p0_E (Or.inr ⟨(hw _ (mg (i := 54) rfl)), rfl, hnm⟩) (hw _ (mg (i := 42) rfl)) (ty := (.object "java/lang/String")) (by decide) rfl rfl (g := (mkF m 6 #[.val (.ref a0), .val (.ref a1), .val (.ref a2), .val (.ref a3)] [(.ref a1), (.ref a0)])) rfl rfl (hb hby d9_6)
  have Fw32 : Fld Z h32 a0 "com/example/ledgerline/ledgerline/Settlement$Key" "pts" "Ljava/lang/String;" (.ref a1) := p1_F.same W32
  have N32 := Fr.snoc X32 N31 p4_g
  have K33 := K0.wr W32 (Or.inl (List.mem_of_getElem? (i := 0) rfl))
  have f34 := (p2_F.other W32 (Or.inr (slot_ne (Or.inr (hw _ (mg (i := 56) rfl))) (Or.inr (hw _ (mg (i := 54) rfl))) (by decide) (t := (.object "java/lang/String")) (t' := (.object "java/lang/String")) (by decide) (by decide))))
  have f35 := (p0_E.wr W32)
  obtain ⟨T36, h36, X36, e36, W36, st36⟩ := putF X32 hx hZ hown (host := "") (Or.inl (hw _ (mg (i := 55) rfl))) Via.refl e32 f34 f35 (Or.inr ⟨(hw _ (mg (i := 56) rfl)), rfl, hnm⟩) (hw _ (mg (i := 42) rfl)) (ty := (.object "java/lang/String")) (by decide) rfl rfl (g := (mkF m 11 #[.val (.ref a0), .val (.ref a1), .val (.ref a2), .val (.ref a3)] [(.ref a2), (.ref a0)])) rfl rfl (hb hby d9_11)
  have Fw36 : Fld Z h36 a0 "com/example/ledgerline/ledgerline/Settlement$Key" "processingEntity" "Ljava/lang/String;" (.ref a2) := f34.same W36
  have N36 := Fr.snoc X36 N32 p4_g
  have K37 := K33.wr W36 (Or.inl (List.mem_of_getElem? (i := 0) rfl))
  have f38 := ((p3_F.other W32 (Or.inr (slot_ne (Or.inr (hw _ (mg (i := 58) rfl))) (Or.inr (hw _ (mg (i := 54) rfl))) (by decide) (t := (.object "java/lang/String")) (t' := (.object "java/lang/String")) (by decide) (by decide)))).other W36 (Or.inr (slot_ne (Or.inr (hw _ (mg (i := 58) rfl))) (Or.inr (hw _ (mg (i := 56) rfl))) (by decide) (t := (.object "java/lang/String")) (t' := (.object "java/lang/String")) (by decide) (by decide))))
  have f39 := (f35.wr W36)
  obtain ⟨T40, h40, X40, e40, W40, st40⟩ := putF X36 hx hZ hown (host := "") (Or.inl (hw _ (mg (i := 57) rfl))) Via.refl e36 f38 f39 (Or.inr ⟨(hw _ (mg (i := 58) rfl)), rfl, hnm⟩) (hw _ (mg (i := 42) rfl)) (ty := (.object "java/lang/String")) (by decide) rfl rfl (g := (mkF m 16 #[.val (.ref a0), .val (.ref a1), .val (.ref a2), .val (.ref a3)] [(.ref a3), (.ref a0)])) rfl rfl (hb hby d9_16)
  have Fw40 : Fld Z h40 a0 "com/example/ledgerline/ledgerline/Settlement$Key" "settlementId" "Ljava/lang/String;" (.ref a3) := f38.same W40
  have N40 := Fr.snoc X40 N36 p4_g
  have K41 := K37.wr W40 (Or.inl (List.mem_of_getElem? (i := 0) rfl))
  obtain ⟨fs, hrL, hrun, hended, hW, hsame⟩ := X40.leave (v := none) (fun _ => rfl)
  have f42 := (f39.wr W40)
  have f43 := ((Fw32.other W36 (Or.inr (slot_ne (Or.inr (hw _ (mg (i := 54) rfl))) (Or.inr (hw _ (mg (i := 56) rfl))) (by decide) (t := (.object "java/lang/String")) (t' := (.object "java/lang/String")) (by decide) (by decide)))).other W40 (Or.inr (slot_ne (Or.inr (hw _ (mg (i := 54) rfl))) (Or.inr (hw _ (mg (i := 58) rfl))) (by decide) (t := (.object "java/lang/String")) (t' := (.object "java/lang/String")) (by decide) (by decide))))
  have f44 := (Fw36.other W40 (Or.inr (slot_ne (Or.inr (hw _ (mg (i := 56) rfl))) (Or.inr (hw _ (mg (i := 58) rfl))) (by decide) (t := (.object "java/lang/String")) (t' := (.object "java/lang/String")) (by decide) (by decide))))
  refine ⟨_, _, pre0 _ ?_, hrun, hended, _, _, rfl, ?_, ⟨_, rfl⟩, hW, hsame.mono (by decide) (by decide)⟩
  · show Steps p.tables e below (s₁.setTop (mkF m 0 #[.val (.ref a0), .val (.ref a1), .val (.ref a2), .val (.ref a3)] [])) _
    refine XS.aloadN X0.here hx rfl (hb hby d9_0) rfl rfl ?_
    show Steps p.tables e below (s₁.setTop (mkF m 1 #[.val (.ref a0), .val (.ref a1), .val (.ref a2), .val (.ref a3)] [(.ref a0)])) _
    refine st31.trans ?_
    refine XS.aloadN X31.here hx rfl (hb hby d9_4) rfl rfl ?_
    show Steps p.tables e below (T31.setTop (mkF m 5 #[.val (.ref a0), .val (.ref a1), .val (.ref a2), .val (.ref a3)] [(.ref a0)])) _
    refine XS.aloadN X31.here hx rfl (hb hby d9_5) rfl rfl ?_
    show Steps p.tables e below (T31.setTop (mkF m 6 #[.val (.ref a0), .val (.ref a1), .val (.ref a2), .val (.ref a3)] [(.ref a1), (.ref a0)])) _
    refine st32 _ ?_
    refine XS.aloadN X32.here hx rfl (hb hby d9_9) rfl rfl ?_
    refine XS.aloadN X32.here hx rfl (hb hby d9_10) rfl rfl ?_
    show Steps p.tables e below (T32.setTop (mkF m 11 #[.val (.ref a0), .val (.ref a1), .val (.ref a2), .val (.ref a3)] [(.ref a2), (.ref a0)])) _
    refine st36 _ ?_
    refine XS.aloadN X36.here hx rfl (hb hby d9_14) rfl rfl ?_
    refine XS.aloadN X36.here hx rfl (hb hby d9_15) rfl rfl ?_
    show Steps p.tables e below (T36.setTop (mkF m 16 #[.val (.ref a0), .val (.ref a1), .val (.ref a2), .val (.ref a3)] [(.ref a3), (.ref a0)])) _
    refine st40 _ ?_
    show Steps p.tables e below (T40.setTop (mkF m 19 #[.val (.ref a0), .val (.ref a1), .val (.ref a2), .val (.ref a3)] [])) _
    exact X40.returnOut hx Bd.returns (hb hby d9_19) hrL
  · show Q_kin _ _ _ _ _ _ _ _  T40.heap _
    rw [e40]
    exact ⟨rfl, N40, K41, f42, f43, f44, Fw40⟩
theorem d11_0 : decode prog_59_method_2_code 0 = .ok (.new 19, 3) := by decide +kernel
theorem d11_3 : decode prog_59_method_2_code 3 = .ok (.dup, 1) := by decide +kernel
theorem d11_4 : decode prog_59_method_2_code 4 = .ok (.invokespecial 21, 3) := by decide +kernel
theorem d11_7 : decode prog_59_method_2_code 7 = .ok (.aload_n 0, 1) := by decide +kernel
theorem d11_8 : decode prog_59_method_2_code 8 = .ok (.getfield 7, 3) := by decide +kernel
theorem d11_11 : decode prog_59_method_2_code 11 = .ok (.invokevirtual 22, 3) := by decide +kernel
theorem pd_11 : parseMethodDescriptor "(Ljava/lang/String;)Ljava/lang/StringBuilder;" = some ⟨[(.object "java/lang/String")], some (.object "java/lang/StringBuilder")⟩ := by decide +kernel
theorem d11_14 : decode prog_59_method_2_code 14 = .ok (.ldc 26, 2) := by decide +kernel
theorem d11_16 : decode prog_59_method_2_code 16 = .ok (.invokevirtual 22, 3) := by decide +kernel
theorem d11_19 : decode prog_59_method_2_code 19 = .ok (.aload_n 0, 1) := by decide +kernel
theorem d11_20 : decode prog_59_method_2_code 20 = .ok (.getfield 13, 3) := by decide +kernel
theorem d11_23 : decode prog_59_method_2_code 23 = .ok (.invokevirtual 22, 3) := by decide +kernel
theorem d11_26 : decode prog_59_method_2_code 26 = .ok (.ldc 26, 2) := by decide +kernel
theorem d11_28 : decode prog_59_method_2_code 28 = .ok (.invokevirtual 22, 3) := by decide +kernel
theorem d11_31 : decode prog_59_method_2_code 31 = .ok (.aload_n 0, 1) := by decide +kernel
theorem d11_32 : decode prog_59_method_2_code 32 = .ok (.getfield 16, 3) := by decide +kernel
theorem d11_35 : decode prog_59_method_2_code 35 = .ok (.invokevirtual 22, 3) := by decide +kernel
theorem d11_38 : decode prog_59_method_2_code 38 = .ok (.invokevirtual 28, 3) := by decide +kernel
theorem pd_9 : parseMethodDescriptor "()Ljava/lang/String;" = some ⟨[], some (.object "java/lang/String")⟩ := by decide +kernel
theorem d11_41 : decode prog_59_method_2_code 41 = .ok (.areturn, 1) := by decide +kernel
theorem ef_kts (m : MethodId) (a0 : Addr) : entryFrame m #[(.ref a0)] 1 = mkF m 0 #[.val (.ref a0)] [] := by first | (simp [entryFrame, mkF, argsToLocals, Value.category]; done) | rfl
def Q_kts (Z : State) (a0 : Addr) (ga : Addr) (va : Addr) (ka : ClassId) (zA : Int32) (vA : List Value) (gb : Addr) (vb : Addr) (kb : ClassId) (zB : Int32) (vB : List Value) (gc : Addr) (vc : Addr) (kc : ClassId) (zC : Int32) (vC : List Value) (cs : Int32) (h0 : Heap) (n0 : Nat) (v : Option Value) (h : Heap) (vm : Vm) (L : List Loc) : Prop := ∃ b : Addr, ∃ vS : Addr, ∃ kS : ClassId, v = some (.ref b) ∧ Fr n0 L ∧ Keep h0 h [] ∧ h0.size ≤ b ∧ Exa Z h b "java/lang/String" ∧ Fld Z h b "java/lang/String" "coder" "B" (.int 0) ∧ Fld Z h b "java/lang/String" "value" "[B" (.ref vS) ∧ Arv Z h vS kS .byte ((((((0 : Int32) + zA) + (1 : Int32)) + zB) + (1 : Int32)) + zC) ((((([] ++ vA) ++ [(.int 47)]) ++ vB) ++ [(.int 47)]) ++ vC) (.int 0) ∧ True
set_option maxRecDepth 65536 in
set_option maxHeartbeats 40000000 in
theorem kts (l : Launch) (Z : State) (av0 : Array Value) (hw : ∀ d ∈ tables_1, d.before av0 Z = true) (ws : List Jvm.Cond) (a0 : Addr) (ga : Addr) (va : Addr) (ka : ClassId) (zA : Int32) (vA : List Value) (gb : Addr) (vb : Addr) (kb : ClassId) (zB : Int32) (vB : List Value) (gc : Addr) (vc : Addr) (kc : ClassId) (zC : Int32) (vC : List Value) (cs : Int32) (h0 : Heap) (n0 : Nat) (Z0 : n0 ≤ h0.size) (p0_O : Old Z n0 h0) (p1_S : Sta Z Z.heap "java/lang/String" "COMPACT_STRINGS" "Z" (.int cs)) (hcs : ¬ (cs = (0 : Int32))) (p3_E : Exa Z h0 a0 "com/example/ledgerline/ledgerline/Settlement$Key") (p4_F : Fld Z h0 a0 "com/example/ledgerline/ledgerline/Settlement$Key" "pts" "Ljava/lang/String;" (.ref ga)) (p5_F : Fld Z h0 a0 "com/example/ledgerline/ledgerline/Settlement$Key" "processingEntity" "Ljava/lang/String;" (.ref gb)) (p6_F : Fld Z h0 a0 "com/example/ledgerline/ledgerline/Settlement$Key" "settlementId" "Ljava/lang/String;" (.ref gc)) (p7_E : Exa Z h0 ga "java/lang/String") (p8_F : Fld Z h0 ga "java/lang/String" "coder" "B" (.int 0)) (p9_F : Fld Z h0 ga "java/lang/String" "value" "[B" (.ref va)) (p10_A : Arv Z h0 va ka .byte zA vA (.int 0)) (p11_E : Exa Z h0 gb "java/lang/String") (p12_F : Fld Z h0 gb "java/lang/String" "coder" "B" (.int 0)) (p13_F : Fld Z h0 gb "java/lang/String" "value" "[B" (.ref vb)) (p14_A : Arv Z h0 vb kb .byte zB vB (.int 0)) (p15_E : Exa Z h0 gc "java/lang/String") (p16_F : Fld Z h0 gc "java/lang/String" "coder" "B" (.int 0)) (p17_F : Fld Z h0 gc "java/lang/String" "value" "[B" (.ref vc)) (p18_A : Arv Z h0 vc kc .byte zC vC (.int 0)) (hA : Ln zA vA 2) (hB : Ln zB vB 2) (hC : Ln zC vC 2) (hheld2 : Jvm.Lit.constHeld Z "com/example/ledgerline/ledgerline/Settlement$Key" 26) (hcw : Jvm.Lit.compactW.before av0 Z = true) :
    MetFree l (⟨"com/example/ledgerline/ledgerline/Settlement$Key", "toString", "()Ljava/lang/String;"⟩ : MethodName) (head1 (Jvm.Cond.code (⟨"com/example/ledgerline/ledgerline/Settlement$Key", "toString", "()Ljava/lang/String;"⟩ : MethodName) prog_59_method_2_code 1 (some (.object "java/lang/String")) :: ws) ({ frames := 6, cells := 6, slots := 40, locals := 91 } : Room)) (fun a U => a = #[(.ref a0)] ∧ Z.Warmed39 U.vm ∧ U.heap = h0 ∧ Sl Z U.vm) (fun _ _ _ _ _ => True) (fun _ U o U' => ∃ v L, o = .returned v ∧ Q_kts Z a0 ga va ka zA vA gb vb kb zB vB gc vc kc zC vC cs h0 n0 v U'.heap U'.vm L ∧ ReturnedEndW U o U' L ({ frames := 6, cells := 6, slots := 40, locals := 91 } : Room).cells ({ frames := 6, cells := 6, slots := 40, locals := 91 } : Room).slots) := by
  refine MetFree.of_bodySF (plainFor_of_name pn_com_example_ledgerline_ledgerline_Settlement_Key) hisR ?_
  intro p e s m args below meth c s₁ Bd hml0 hP hK
  obtain ⟨rfl, hZ, hh, hV0⟩ := hP
  have hx := Bd.exec
  have hby := Bd.bytes
  have hml : c.maxLocals = 1 := hml0
  have hown : s.vm.findClass "com/example/ledgerline/ledgerline/Settlement$Key" = some m.cls := findClass_of_methodNamed Bd.named
  have hnm := (name_of_methodNamed Bd.named Bd.method).1
  have X0 : Stand p l e ({ frames := 6, cells := 6, slots := 40, locals := 91 } : Room) s m #[(.ref a0)] below meth c s₁ [] 0 0 := Stand.of_body Bd
  have e0 : s₁.heap = h0 := by rw [← hh, Bd.state]; rfl
  have N0 := Fr.nil n0
  have pre0 : ∀ tz_, Steps p.tables e below (s₁.setTop (mkF m 0 #[.val (.ref a0)] [])) tz_ → Steps p.tables e below (s₁.setTop (entryFrame m #[(.ref a0)] 1)) tz_ := fun tz_ kz_ => castTop (ef_kts m a0) kz_
  have hS0 : s.Since s.vm 0 := (State.WarmedH.refl s).since 0
  have K0 : Keep h0 h0 [] := Keep.refl h0 []
  obtain ⟨T31, h31, X31, e31, E31, A31, D31, -, st31⟩ := newO X0 hx hZ hown (hw _ (mg (i := 64) rfl)) (hw _ (mg (i := 65) rfl)) (hw _ (mg (i := 66) rfl)) e0 (g := (mkF m 0 #[.val (.ref a0)] [])) rfl (hb hby d11_0) (by decide) (by decide)
  obtain ⟨b31, q31⟩ : ∃ z, z = h0.size := ⟨_, rfl⟩
  rw [← q31] at A31 D31 st31
  have g_b31 : n0 ≤ b31 := Nat.le_trans (own_le p0_O) (Nat.le_of_eq q31.symm)
  have sz_b31 : h0.size ≤ b31 := Nat.le_trans K0.1 (Nat.le_of_eq q31.symm)
  have K32 := K0.ext E31
  have O32 := p0_O.ext E31
  have F31_value : Fld Z h31 b31 "java/lang/AbstractStringBuilder" "value" "[B" .null := D31 (Or.inl (hw _ (mg (i := 79) rfl))) (ty := (.array .byte)) (by decide)
  have F31_coder : Fld Z h31 b31 "java/lang/AbstractStringBuilder" "coder" "B" (.int 0) := D31 (Or.inl (hw _ (mg (i := 81) rfl))) (ty := .byte) (by decide)
  have F31_count : Fld Z h31 b31 "java/lang/AbstractStringBuilder" "count" "I" (.int 0) := D31 (Or.inl (hw _ (mg (i := 103) rfl))) (ty := .int) (by decide)
  have pre33 : ∀ tz_, Steps p.tables e below (T31.setTop (mkF m 4 #[.val (.ref a0)] [(.ref b31), (.ref b31)])) tz_ → Steps p.tables e below (s₁.setTop (entryFrame m #[(.ref a0)] 1)) tz_ := fun tz_ kk => pre0 tz_ (by
    show Steps p.tables e below (s₁.setTop (mkF m 0 #[.val (.ref a0)] [])) _
    refine st31 _ ?_
    refine XS.dup X31.here hx rfl (hb hby d11_3) rfl rfl ?_
    show Steps p.tables e below (T31.setTop (mkF m 4 #[.val (.ref a0)] [(.ref b31), (.ref b31)])) _
    exact kk)
  -- pc 4: StringBuilder.init
  obtain ⟨_, _, ⟨T34, L34, k34, n34⟩, -, X34, ⟨Lc34, hQ34, l34, y34, z34⟩, st34⟩ := X31.specialBack hx (y := (⟨"java/lang/StringBuilder", "<init>", "()V"⟩ : MethodName)) rfl hown (mvT hZ (hw _ (mg (i := 67) rfl))) (mvT hZ (hw _ (mg (i := 68) rfl))) (mvT hZ (hw _ (mg (i := 69) rfl))) (by decide) (backOf (W := 1) (sbi l Z av0 hw [] b31 cs h31 n0 (own_le O32) O32 p1_S (hcs : ¬ (cs = (0 : Int32))) A31 F31_value F31_coder F31_count g_b31) hZ (hw _ (mg (i := 69) rfl)) (hw _ (mg (i := 66) rfl)) (by decide) (by decide)) (g := (mkF m 4 #[.val (.ref a0)] [(.ref b31), (.ref b31)])) rfl (by rw [hml]; rfl) (Steps.refl _) (a := b31) (argsL := []) (rest := [(.ref b31)]) (lenOf pd_5 rfl) rfl (by show 2 * 0 + _ ≤ _; exact Nat.le_of_eq rfl) (hb hby d11_4) (fun vmx hWx => ⟨rfl, e31, (by decide : 1 + 1 ≤ _), (by decide : 4 + 16 ≤ _)⟩)
  dsimp only [Pt.U, Pt.locs, Pt.cells, Pt.slots] at X34 l34 y34 z34 st34 hQ34
  subst l34 y34 z34
  obtain ⟨arr_34, kr_34, rv34, Nq34, Kq34, u34_0, u34_1, u34_2, u34_3, u34_4, u34_5⟩ := hQ34
  subst rv34
  have N34 := Fr.app N0 Nq34
  have g_arr_34 : n0 ≤ arr_34 := Nat.le_trans (own_le O32) u34_0
  have sz_arr_34 : h0.size ≤ arr_34 := Nat.le_trans K32.1 u34_0
  have K35 := K32.trans Kq34 (allS (Or.inr sz_b31) all0)
  have O35 := O32.keep Kq34 (allS g_b31 all0)
  have Vp36 : Arv Z T34.heap arr_34 kr_34 .byte (16 : Int32) (Pd []) (.int 0) := u34_5
  have ne37 : a0 ≠ b31 := (Nat.ne_of_lt (Nat.lt_of_lt_of_le p3_E.lt (Nat.le_of_eq q31.symm)))
  have f38 := ((p4_F.ext E31).keep Kq34 (ninS ne37 nin0))
  obtain ⟨T39, X39, e39, st39⟩ := getF X34 hx hZ hown (host := "") (Or.inl (hw _ (mg (i := 53) rfl))) Via.refl rfl f38 (g := (mkF m 8 #[.val (.ref a0)] [(.ref a0), (.ref b31)])) rfl rfl (hb hby d11_8)
  have pre40 : ∀ tz_, Steps p.tables e below (T39.setTop (mkF m 11 #[.val (.ref a0)] [(.ref ga), (.ref b31)])) tz_ → Steps p.tables e below (s₁.setTop (entryFrame m #[(.ref a0)] 1)) tz_ := fun tz_ kk => pre33 tz_ (by
    refine st34.trans ?_
    show Steps p.tables e below (T34.setTop (mkF m 7 #[.val (.ref a0)] [(.ref b31)])) _
    refine XS.aloadN X34.here hx rfl (hb hby d11_7) rfl rfl ?_
    show Steps p.tables e below (T34.setTop (mkF m 8 #[.val (.ref a0)] [(.ref a0), (.ref b31)])) _
    refine st39 _ ?_
    show Steps p.tables e below (T39.setTop (mkF m 11 #[.val (.ref a0)] [(.ref ga), (.ref b31)])) _
    exact kk)
  have f41 := ((p7_E.ext E31).keep Kq34)
  have ne42 : ga ≠ b31 := (Nat.ne_of_lt (Nat.lt_of_lt_of_le p7_E.lt (Nat.le_of_eq q31.symm)))
  have f43 := ((p8_F.ext E31).keep Kq34 (ninS ne42 nin0))
  have f44 := ((p9_F.ext E31).keep Kq34 (ninS ne42 nin0))
  have ne45 : va ≠ b31 := (Nat.ne_of_lt (Nat.lt_of_lt_of_le p10_A.lt (Nat.le_of_eq q31.symm)))
  have f46 := ((p10_A.ext E31).keep Kq34 (ninS ne45 nin0))
  have ne47 : va ≠ arr_34 := (Nat.ne_of_lt (Nat.lt_of_lt_of_le (Nat.lt_of_lt_of_le p10_A.lt E31.1) u34_0))
  -- pc 11: StringBuilder.append
  obtain ⟨cq48, kq48, q48a, q48b, q48c⟩ := isOf hZ e39 u34_1
  obtain ⟨_, _, ⟨T48, L48, k48, n48⟩, -, X48, ⟨Lc48, hQ48, l48, y48, z48⟩, st48⟩ := X39.virtualBack hx (y := (⟨"java/lang/StringBuilder", "append", "(Ljava/lang/String;)Ljava/lang/StringBuilder;"⟩ : MethodName)) (z := (⟨"java/lang/StringBuilder", "append", "(Ljava/lang/String;)Ljava/lang/StringBuilder;"⟩ : MethodName)) hown (mvT hZ (hw _ (mg (i := 82) rfl))) (mvT hZ (hw _ (mg (i := 83) rfl))) (notFace_of_selects (args := #[]) (mvT hZ (hw _ (mg (i := 85) rfl)))) (mvT hZ (hw _ (mg (i := 85) rfl))) (mvT hZ (hw _ (mg (i := 84) rfl))) (by decide) (backOf (W := 0) (sap l Z av0 hw [] b31 ga va ka zA vA arr_34 kr_34 (0 : Int32) [] cs T34.heap n0 (own_le O35) O35 p1_S (hcs : ¬ (cs = (0 : Int32))) u34_1 u34_2 u34_3 u34_4 Vp36 f41 f43 f44 f46 ne47 g_arr_34 g_b31 ((Ln.mono Ln.nil (by decide)) : Ln (0 : Int32) [] 6) ((Ln.mono hA (by decide)) : Ln zA vA 2)) hZ (hw _ (mg (i := 86) rfl)) (hw _ (mg (i := 66) rfl)) (by decide) (by decide)) q48a q48c (g := (mkF m 11 #[.val (.ref a0)] [(.ref ga), (.ref b31)])) rfl (by rw [hml]; rfl) (Steps.refl _) (argsL := [(.ref ga)]) (rest := []) (lenOf pd_11 rfl) rfl (by show 2 * 0 + _ ≤ _; exact Nat.le_of_eq rfl) (hb hby d11_11) (fun vmx hWx => ⟨rfl, e39, (by decide : 2 + 0 ≤ _), (by decide : 20 + 0 ≤ _)⟩)
  dsimp only [Pt.U, Pt.locs, Pt.cells, Pt.slots] at X48 l48 y48 z48 st48 hQ48
  subst l48 y48 z48
  obtain ⟨rv48, Nq48, Kq48, u48_0, u48_1, u48_2, u48_3, u48_4⟩ := hQ48
  subst rv48
  have N48 := Fr.app N34 Nq48
  have K49 := K35.trans Kq48 (allS (Or.inr sz_b31) (allS (Or.inr sz_arr_34) all0))
  have O49 := O35.keep Kq48 (allS g_b31 (allS g_arr_34 all0))
  have pre50 : ∀ tz_, Steps p.tables e below (T48.setTop (mkF m 14 #[.val (.ref a0)] [(.ref b31)])) tz_ → Steps p.tables e below (s₁.setTop (entryFrame m #[(.ref a0)] 1)) tz_ := fun tz_ kk => pre40 tz_ (by
    refine st48.trans ?_
    exact kk)
  obtain ⟨Ts51, I51, nT51⟩ := hV0
  have Xc51 := own_clear X48 (fun b cl q => (K49.2.1 b cl (by rw [← hh]; exact q) nin0))
  obtain ⟨la52, T52, h52, kk52, lb52, lk52, X52, e52, E52, hS52, hk52, hZ, hown, Le52, Lc52, Lv52, La52, -, -, -, hL52, st52⟩ := ldcSVL (s := s) (vm0 := s.vm) Xc51 hx hZ hown (hw _ (mg (i := 129) rfl)) (own_wS hw) rfl hS0 (Nat.zero_le _) (Fr.nil _) (fun b cl q => by rw [hh]; exact p0_O.2.2 b cl q) I51 nT51 hheld2 hcw (vs := [(.int 47)]) (z := 1) ⟨by decide, rfl⟩ (by decide) (by decide) (g := (mkF m 14 #[.val (.ref a0)] [(.ref b31)])) rfl (hb hby d11_14) (n := 4) (by decide) (by decide) (by decide) (by decide)
  have K53 := K49.ext E52
  have O53 := O49.ext E52
  have pre54 : ∀ tz_, Steps p.tables e below (T52.setTop (mkF m 16 #[.val (.ref a0)] [(.ref la52), (.ref b31)])) tz_ → Steps p.tables e below (s₁.setTop (entryFrame m #[(.ref a0)] 1)) tz_ := fun tz_ kk => pre50 tz_ (by
    show Steps p.tables e below (T48.setTop (mkF m 14 #[.val (.ref a0)] [(.ref b31)])) _
    refine st52 _ ?_
    show Steps p.tables e below (T52.setTop (mkF m 16 #[.val (.ref a0)] [(.ref la52), (.ref b31)])) _
    exact kk)
  have f56 := (u48_4.ext E52)
  have nea55 : lb52 ≠ arr_34 := own_nearr La52 f56 (by decide)
  have f57 := (u48_0.ext E52)
  have f58 := (u48_1.ext E52)
  have f59 := (u48_2.ext E52)
  have f60 := (u48_3.ext E52)
  -- pc 16: StringBuilder.append
  obtain ⟨cq61, kq61, q61a, q61b, q61c⟩ := isOf hZ e52 f57
  obtain ⟨_, _, ⟨T61, L61, k61, n61⟩, -, X61, ⟨Lc61, hQ61, l61, y61, z61⟩, st61⟩ := X52.virtualBack hx (y := (⟨"java/lang/StringBuilder", "append", "(Ljava/lang/String;)Ljava/lang/StringBuilder;"⟩ : MethodName)) (z := (⟨"java/lang/StringBuilder", "append", "(Ljava/lang/String;)Ljava/lang/StringBuilder;"⟩ : MethodName)) hown (mvT hZ (hw _ (mg (i := 82) rfl))) (mvT hZ (hw _ (mg (i := 83) rfl))) (notFace_of_selects (args := #[]) (mvT hZ (hw _ (mg (i := 85) rfl)))) (mvT hZ (hw _ (mg (i := 85) rfl))) (mvT hZ (hw _ (mg (i := 84) rfl))) (by decide) (backOf (W := 0) (sap l Z av0 hw [] b31 la52 lb52 lk52 (1 : Int32) [(.int 47)] arr_34 kr_34 ((0 : Int32) + zA) ([] ++ vA) cs h52 n0 (own_le O53) O53 p1_S (hcs : ¬ (cs = (0 : Int32))) f57 f58 f59 f60 f56 Le52 Lc52 Lv52 La52 nea55 g_arr_34 g_b31 ((Ln.mono (Ln.add Ln.nil hA (by decide)) (by decide)) : Ln ((0 : Int32) + zA) ([] ++ vA) 6) ((Ln.mono (⟨by decide, rfl, by decide⟩ : Ln (1 : Int32) [(.int 47)] 1) (by decide)) : Ln (1 : Int32) [(.int 47)] 2)) hZ (hw _ (mg (i := 86) rfl)) (hw _ (mg (i := 66) rfl)) (by decide) (by decide)) q61a q61c (g := (mkF m 16 #[.val (.ref a0)] [(.ref la52), (.ref b31)])) rfl (by rw [hml]; rfl) (Steps.refl _) (argsL := [(.ref la52)]) (rest := []) (lenOf pd_11 rfl) rfl (by show 2 * 0 + _ ≤ _; exact Nat.le_of_eq rfl) (hb hby d11_16) (fun vmx hWx => ⟨rfl, e52, (by decide : 4 + 0 ≤ _), (by decide : 28 + 0 ≤ _)⟩)
  dsimp only [Pt.U, Pt.locs, Pt.cells, Pt.slots] at X61 l61 y61 z61 st61 hQ61
  subst l61 y61 z61
  obtain ⟨rv61, Nq61, Kq61, u61_0, u61_1, u61_2, u61_3, u61_4⟩ := hQ61
  subst rv61
  have N61 := Fr.app (Fr.nil n0) Nq61
  have K62 := K53.trans Kq61 (allS (Or.inr sz_b31) (allS (Or.inr sz_arr_34) all0))
  have O62 := O53.keep Kq61 (allS g_b31 (allS g_arr_34 all0))
  have ne63 : a0 ≠ arr_34 := (Nat.ne_of_lt (Nat.lt_of_lt_of_le (Nat.lt_of_lt_of_le p3_E.lt E31.1) u34_0))
  have f64 := (((((p5_F.ext E31).keep Kq34 (ninS ne37 nin0)).keep Kq48 (ninS ne37 (ninS ne63 nin0))).ext E52).keep Kq61 (ninS ne37 (ninS ne63 nin0)))
  obtain ⟨T65, X65, e65, st65⟩ := getF X61 hx hZ hown (host := "") (Or.inl (hw _ (mg (i := 55) rfl))) Via.refl rfl f64 (g := (mkF m 20 #[.val (.ref a0)] [(.ref a0), (.ref b31)])) rfl rfl (hb hby d11_20)
  have pre66 : ∀ tz_, Steps p.tables e below (T65.setTop (mkF m 23 #[.val (.ref a0)] [(.ref gb), (.ref b31)])) tz_ → Steps p.tables e below (s₁.setTop (entryFrame m #[(.ref a0)] 1)) tz_ := fun tz_ kk => pre54 tz_ (by
    refine st61.trans ?_
    refine XS.aloadN X61.here hx rfl (hb hby d11_19) rfl rfl ?_
    show Steps p.tables e below (T61.setTop (mkF m 20 #[.val (.ref a0)] [(.ref a0), (.ref b31)])) _
    refine st65 _ ?_
    show Steps p.tables e below (T65.setTop (mkF m 23 #[.val (.ref a0)] [(.ref gb), (.ref b31)])) _
    exact kk)
  have f67 := (((((p11_E.ext E31).keep Kq34).keep Kq48).ext E52).keep Kq61)
  have ne68 : gb ≠ b31 := (Nat.ne_of_lt (Nat.lt_of_lt_of_le p11_E.lt (Nat.le_of_eq q31.symm)))
  have ne69 : gb ≠ arr_34 := (Nat.ne_of_lt (Nat.lt_of_lt_of_le (Nat.lt_of_lt_of_le p11_E.lt E31.1) u34_0))
  have f70 := (((((p12_F.ext E31).keep Kq34 (ninS ne68 nin0)).keep Kq48 (ninS ne68 (ninS ne69 nin0))).ext E52).keep Kq61 (ninS ne68 (ninS ne69 nin0)))
  have f71 := (((((p13_F.ext E31).keep Kq34 (ninS ne68 nin0)).keep Kq48 (ninS ne68 (ninS ne69 nin0))).ext E52).keep Kq61 (ninS ne68 (ninS ne69 nin0)))
  have ne72 : vb ≠ b31 := (Nat.ne_of_lt (Nat.lt_of_lt_of_le p14_A.lt (Nat.le_of_eq q31.symm)))
  have ne73 : vb ≠ arr_34 := (Nat.ne_of_lt (Nat.lt_of_lt_of_le (Nat.lt_of_lt_of_le p14_A.lt E31.1) u34_0))
  have f74 := (((((p14_A.ext E31).keep Kq34 (ninS ne72 nin0)).keep Kq48 (ninS ne72 (ninS ne73 nin0))).ext E52).keep Kq61 (ninS ne72 (ninS ne73 nin0)))
  -- pc 23: StringBuilder.append
  obtain ⟨cq75, kq75, q75a, q75b, q75c⟩ := isOf hZ e65 u61_0
  obtain ⟨_, _, ⟨T75, L75, k75, n75⟩, -, X75, ⟨Lc75, hQ75, l75, y75, z75⟩, st75⟩ := X65.virtualBack hx (y := (⟨"java/lang/StringBuilder", "append", "(Ljava/lang/String;)Ljava/lang/StringBuilder;"⟩ : MethodName)) (z := (⟨"java/lang/StringBuilder", "append", "(Ljava/lang/String;)Ljava/lang/StringBuilder;"⟩ : MethodName)) hown (mvT hZ (hw _ (mg (i := 82) rfl))) (mvT hZ (hw _ (mg (i := 83) rfl))) (notFace_of_selects (args := #[]) (mvT hZ (hw _ (mg (i := 85) rfl)))) (mvT hZ (hw _ (mg (i := 85) rfl))) (mvT hZ (hw _ (mg (i := 84) rfl))) (by decide) (backOf (W := 0) (sap l Z av0 hw [] b31 gb vb kb zB vB arr_34 kr_34 (((0 : Int32) + zA) + (1 : Int32)) (([] ++ vA) ++ [(.int 47)]) cs T61.heap n0 (own_le O62) O62 p1_S (hcs : ¬ (cs = (0 : Int32))) u61_0 u61_1 u61_2 u61_3 u61_4 f67 f70 f71 f74 ne73 g_arr_34 g_b31 ((Ln.mono (Ln.add (Ln.add Ln.nil hA (by decide)) (⟨by decide, rfl, by decide⟩ : Ln (1 : Int32) [(.int 47)] 1) (by decide)) (by decide)) : Ln (((0 : Int32) + zA) + (1 : Int32)) (([] ++ vA) ++ [(.int 47)]) 6) ((Ln.mono hB (by decide)) : Ln zB vB 2)) hZ (hw _ (mg (i := 86) rfl)) (hw _ (mg (i := 66) rfl)) (by decide) (by decide)) q75a q75c (g := (mkF m 23 #[.val (.ref a0)] [(.ref gb), (.ref b31)])) rfl (by rw [hml]; rfl) (Steps.refl _) (argsL := [(.ref gb)]) (rest := []) (lenOf pd_11 rfl) rfl (by show 2 * 0 + _ ≤ _; exact Nat.le_of_eq rfl) (hb hby d11_23) (fun vmx hWx => ⟨rfl, e65, (by decide : 4 + 0 ≤ _), (by decide : 28 + 0 ≤ _)⟩)
  dsimp only [Pt.U, Pt.locs, Pt.cells, Pt.slots] at X75 l75 y75 z75 st75 hQ75
  subst l75 y75 z75
  obtain ⟨rv75, Nq75, Kq75, u75_0, u75_1, u75_2, u75_3, u75_4⟩ := hQ75
  subst rv75
  have N75 := Fr.app N61 Nq75
  have K76 := K62.trans Kq75 (allS (Or.inr sz_b31) (allS (Or.inr sz_arr_34) all0))
  have O76 := O62.keep Kq75 (allS g_b31 (allS g_arr_34 all0))
  have pre77 : ∀ tz_, Steps p.tables e below (T75.setTop (mkF m 28 #[.val (.ref a0)] [(.ref la52), (.ref b31)])) tz_ → Steps p.tables e below (s₁.setTop (entryFrame m #[(.ref a0)] 1)) tz_ := fun tz_ kk => pre66 tz_ (by
    refine st75.trans ?_
    show Steps p.tables e below (T75.setTop (mkF m 26 #[.val (.ref a0)] [(.ref b31)])) _
    refine ldcAgain (s := s) (vm0 := T52.vm) X75 hx hZ hown (hw _ (mg (i := 129) rfl)) hL52 (g := (mkF m 26 #[.val (.ref a0)] [(.ref b31)])) rfl (hb hby d11_26) _ ?_
    show Steps p.tables e below (T75.setTop (mkF m 28 #[.val (.ref a0)] [(.ref la52), (.ref b31)])) _
    exact kk)
  have f78 := ((Le52.keep Kq61).keep Kq75)
  have ne79 : la52 ≠ arr_34 := (ne_arv f78 (hw _ (mg (i := 14) rfl)) u75_4)
  have ne80 : la52 ≠ b31 := (ne_exa f78 u75_0 (by decide))
  have f81 := ((Lc52.keep Kq61 (ninS ne80 (ninS ne79 nin0))).keep Kq75 (ninS ne80 (ninS ne79 nin0)))
  have f82 := ((Lv52.keep Kq61 (ninS ne80 (ninS ne79 nin0))).keep Kq75 (ninS ne80 (ninS ne79 nin0)))
  have ne83 : b31 ≠ lb52 := (ne_arv f57 (hw _ (mg (i := 65) rfl)) La52)
  have ne84 : lb52 ≠ b31 := (Ne.symm ne83)
  have f85 := ((La52.keep Kq61 (ninS ne84 (ninS nea55 nin0))).keep Kq75 (ninS ne84 (ninS nea55 nin0)))
  -- pc 28: StringBuilder.append
  obtain ⟨cq86, kq86, q86a, q86b, q86c⟩ := isOf hZ rfl u75_0
  obtain ⟨_, _, ⟨T86, L86, k86, n86⟩, -, X86, ⟨Lc86, hQ86, l86, y86, z86⟩, st86⟩ := X75.virtualBack hx (y := (⟨"java/lang/StringBuilder", "append", "(Ljava/lang/String;)Ljava/lang/StringBuilder;"⟩ : MethodName)) (z := (⟨"java/lang/StringBuilder", "append", "(Ljava/lang/String;)Ljava/lang/StringBuilder;"⟩ : MethodName)) hown (mvT hZ (hw _ (mg (i := 82) rfl))) (mvT hZ (hw _ (mg (i := 83) rfl))) (notFace_of_selects (args := #[]) (mvT hZ (hw _ (mg (i := 85) rfl)))) (mvT hZ (hw _ (mg (i := 85) rfl))) (mvT hZ (hw _ (mg (i := 84) rfl))) (by decide) (backOf (W := 0) (sap l Z av0 hw [] b31 la52 lb52 lk52 (1 : Int32) [(.int 47)] arr_34 kr_34 ((((0 : Int32) + zA) + (1 : Int32)) + zB) ((([] ++ vA) ++ [(.int 47)]) ++ vB) cs T75.heap n0 (own_le O76) O76 p1_S (hcs : ¬ (cs = (0 : Int32))) u75_0 u75_1 u75_2 u75_3 u75_4 f78 f81 f82 f85 nea55 g_arr_34 g_b31 ((Ln.mono (Ln.add (Ln.add (Ln.add Ln.nil hA (by decide)) (⟨by decide, rfl, by decide⟩ : Ln (1 : Int32) [(.int 47)] 1) (by decide)) hB (by decide)) (by decide)) : Ln ((((0 : Int32) + zA) + (1 : Int32)) + zB) ((([] ++ vA) ++ [(.int 47)]) ++ vB) 6) ((Ln.mono (⟨by decide, rfl, by decide⟩ : Ln (1 : Int32) [(.int 47)] 1) (by decide)) : Ln (1 : Int32) [(.int 47)] 2)) hZ (hw _ (mg (i := 86) rfl)) (hw _ (mg (i := 66) rfl)) (by decide) (by decide)) q86a q86c (g := (mkF m 28 #[.val (.ref a0)] [(.ref la52), (.ref b31)])) rfl (by rw [hml]; rfl) (Steps.refl _) (argsL := [(.ref la52)]) (rest := []) (lenOf pd_11 rfl) rfl (by show 2 * 0 + _ ≤ _; exact Nat.le_of_eq rfl) (hb hby d11_28) (fun vmx hWx => ⟨rfl, rfl, (by decide : 4 + 0 ≤ _), (by decide : 28 + 0 ≤ _)⟩)
  dsimp only [Pt.U, Pt.locs, Pt.cells, Pt.slots] at X86 l86 y86 z86 st86 hQ86
  subst l86 y86 z86
  obtain ⟨rv86, Nq86, Kq86, u86_0, u86_1, u86_2, u86_3, u86_4⟩ := hQ86
  subst rv86
  have N86 := Fr.app N75 Nq86
  have K87 := K76.trans Kq86 (allS (Or.inr sz_b31) (allS (Or.inr sz_arr_34) all0))
  have O87 := O76.keep Kq86 (allS g_b31 (allS g_arr_34 all0))
  have f88 := (((((((p6_F.ext E31).keep Kq34 (ninS ne37 nin0)).keep Kq48 (ninS ne37 (ninS ne63 nin0))).ext E52).keep Kq61 (ninS ne37 (ninS ne63 nin0))).keep Kq75 (ninS ne37 (ninS ne63 nin0))).keep Kq86 (ninS ne37 (ninS ne63 nin0)))
  obtain ⟨T89, X89, e89, st89⟩ := getF X86 hx hZ hown (host := "") (Or.inl (hw _ (mg (i := 57) rfl))) Via.refl rfl f88 (g := (mkF m 32 #[.val (.ref a0)] [(.ref a0), (.ref b31)])) rfl rfl (hb hby d11_32)
  have pre90 : ∀ tz_, Steps p.tables e below (T89.setTop (mkF m 35 #[.val (.ref a0)] [(.ref gc), (.ref b31)])) tz_ → Steps p.tables e below (s₁.setTop (entryFrame m #[(.ref a0)] 1)) tz_ := fun tz_ kk => pre77 tz_ (by
    refine st86.trans ?_
    refine XS.aloadN X86.here hx rfl (hb hby d11_31) rfl rfl ?_
    show Steps p.tables e below (T86.setTop (mkF m 32 #[.val (.ref a0)] [(.ref a0), (.ref b31)])) _
    refine st89 _ ?_
    show Steps p.tables e below (T89.setTop (mkF m 35 #[.val (.ref a0)] [(.ref gc), (.ref b31)])) _
    exact kk)
  have f91 := (((((((p15_E.ext E31).keep Kq34).keep Kq48).ext E52).keep Kq61).keep Kq75).keep Kq86)
  have ne92 : gc ≠ b31 := (Nat.ne_of_lt (Nat.lt_of_lt_of_le p15_E.lt (Nat.le_of_eq q31.symm)))
  have ne93 : gc ≠ arr_34 := (Nat.ne_of_lt (Nat.lt_of_lt_of_le (Nat.lt_of_lt_of_le p15_E.lt E31.1) u34_0))
  have f94 := (((((((p16_F.ext E31).keep Kq34 (ninS ne92 nin0)).keep Kq48 (ninS ne92 (ninS ne93 nin0))).ext E52).keep Kq61 (ninS ne92 (ninS ne93 nin0))).keep Kq75 (ninS ne92 (ninS ne93 nin0))).keep Kq86 (ninS ne92 (ninS ne93 nin0)))
  have f95 := (((((((p17_F.ext E31).keep Kq34 (ninS ne92 nin0)).keep Kq48 (ninS ne92 (ninS ne93 nin0))).ext E52).keep Kq61 (ninS ne92 (ninS ne93 nin0))).keep Kq75 (ninS ne92 (ninS ne93 nin0))).keep Kq86 (ninS ne92 (ninS ne93 nin0)))
  have ne96 : vc ≠ b31 := (Nat.ne_of_lt (Nat.lt_of_lt_of_le p18_A.lt (Nat.le_of_eq q31.symm)))
  have ne97 : vc ≠ arr_34 := (Nat.ne_of_lt (Nat.lt_of_lt_of_le (Nat.lt_of_lt_of_le p18_A.lt E31.1) u34_0))
  have f98 := (((((((p18_A.ext E31).keep Kq34 (ninS ne96 nin0)).keep Kq48 (ninS ne96 (ninS ne97 nin0))).ext E52).keep Kq61 (ninS ne96 (ninS ne97 nin0))).keep Kq75 (ninS ne96 (ninS ne97 nin0))).keep Kq86 (ninS ne96 (ninS ne97 nin0)))
  -- pc 35: StringBuilder.append
  obtain ⟨cq99, kq99, q99a, q99b, q99c⟩ := isOf hZ e89 u86_0
  obtain ⟨_, _, ⟨T99, L99, k99, n99⟩, -, X99, ⟨Lc99, hQ99, l99, y99, z99⟩, st99⟩ := X89.virtualBack hx (y := (⟨"java/lang/StringBuilder", "append", "(Ljava/lang/String;)Ljava/lang/StringBuilder;"⟩ : MethodName)) (z := (⟨"java/lang/StringBuilder", "append", "(Ljava/lang/String;)Ljava/lang/StringBuilder;"⟩ : MethodName)) hown (mvT hZ (hw _ (mg (i := 82) rfl))) (mvT hZ (hw _ (mg (i := 83) rfl))) (notFace_of_selects (args := #[]) (mvT hZ (hw _ (mg (i := 85) rfl)))) (mvT hZ (hw _ (mg (i := 85) rfl))) (mvT hZ (hw _ (mg (i := 84) rfl))) (by decide) (backOf (W := 0) (sap l Z av0 hw [] b31 gc vc kc zC vC arr_34 kr_34 (((((0 : Int32) + zA) + (1 : Int32)) + zB) + (1 : Int32)) (((([] ++ vA) ++ [(.int 47)]) ++ vB) ++ [(.int 47)]) cs T86.heap n0 (own_le O87) O87 p1_S (hcs : ¬ (cs = (0 : Int32))) u86_0 u86_1 u86_2 u86_3 u86_4 f91 f94 f95 f98 ne97 g_arr_34 g_b31 ((Ln.mono (Ln.add (Ln.add (Ln.add (Ln.add Ln.nil hA (by decide)) (⟨by decide, rfl, by decide⟩ : Ln (1 : Int32) [(.int 47)] 1) (by decide)) hB (by decide)) (⟨by decide, rfl, by decide⟩ : Ln (1 : Int32) [(.int 47)] 1) (by decide)) (by decide)) : Ln (((((0 : Int32) + zA) + (1 : Int32)) + zB) + (1 : Int32)) (((([] ++ vA) ++ [(.int 47)]) ++ vB) ++ [(.int 47)]) 6) ((Ln.mono hC (by decide)) : Ln zC vC 2)) hZ (hw _ (mg (i := 86) rfl)) (hw _ (mg (i := 66) rfl)) (by decide) (by decide)) q99a q99c (g := (mkF m 35 #[.val (.ref a0)] [(.ref gc), (.ref b31)])) rfl (by rw [hml]; rfl) (Steps.refl _) (argsL := [(.ref gc)]) (rest := []) (lenOf pd_11 rfl) rfl (by show 2 * 0 + _ ≤ _; exact Nat.le_of_eq rfl) (hb hby d11_35) (fun vmx hWx => ⟨rfl, e89, (by decide : 4 + 0 ≤ _), (by decide : 28 + 0 ≤ _)⟩)
  dsimp only [Pt.U, Pt.locs, Pt.cells, Pt.slots] at X99 l99 y99 z99 st99 hQ99
  subst l99 y99 z99
  obtain ⟨rv99, Nq99, Kq99, u99_0, u99_1, u99_2, u99_3, u99_4⟩ := hQ99
  subst rv99
  have N99 := Fr.app N86 Nq99
  have K100 := K87.trans Kq99 (allS (Or.inr sz_b31) (allS (Or.inr sz_arr_34) all0))
  have O100 := O87.keep Kq99 (allS g_b31 (allS g_arr_34 all0))
  have pre101 : ∀ tz_, Steps p.tables e below (T99.setTop (mkF m 38 #[.val (.ref a0)] [(.ref b31)])) tz_ → Steps p.tables e below (s₁.setTop (entryFrame m #[(.ref a0)] 1)) tz_ := fun tz_ kk => pre90 tz_ (by
    refine st99.trans ?_
    show Steps p.tables e below (T99.setTop (mkF m 38 #[.val (.ref a0)] [(.ref b31)])) _
    exact kk)
  -- pc 38: StringBuilder.toString
  obtain ⟨cq102, kq102, q102a, q102b, q102c⟩ := isOf hZ rfl u99_0
  obtain ⟨_, _, ⟨T102, L102, k102, n102⟩, -, X102, ⟨Lc102, hQ102, l102, y102, z102⟩, st102⟩ := X99.virtualBack hx (y := (⟨"java/lang/StringBuilder", "toString", "()Ljava/lang/String;"⟩ : MethodName)) (z := (⟨"java/lang/StringBuilder", "toString", "()Ljava/lang/String;"⟩ : MethodName)) hown (mvT hZ (hw _ (mg (i := 130) rfl))) (mvT hZ (hw _ (mg (i := 131) rfl))) (notFace_of_selects (args := #[]) (mvT hZ (hw _ (mg (i := 133) rfl)))) (mvT hZ (hw _ (mg (i := 133) rfl))) (mvT hZ (hw _ (mg (i := 132) rfl))) (by decide) (backOf (W := 0) (sts l Z av0 hw [] b31 arr_34 kr_34 ((((((0 : Int32) + zA) + (1 : Int32)) + zB) + (1 : Int32)) + zC) ((((([] ++ vA) ++ [(.int 47)]) ++ vB) ++ [(.int 47)]) ++ vC) cs T99.heap n0 (own_le O100) O100 p1_S (hcs : ¬ (cs = (0 : Int32))) u99_0 u99_1 u99_2 u99_3 u99_4 ((Ln.mono (Ln.add (Ln.add (Ln.add (Ln.add (Ln.add Ln.nil hA (by decide)) (⟨by decide, rfl, by decide⟩ : Ln (1 : Int32) [(.int 47)] 1) (by decide)) hB (by decide)) (⟨by decide, rfl, by decide⟩ : Ln (1 : Int32) [(.int 47)] 1) (by decide)) hC (by decide)) (by decide)) : Ln ((((((0 : Int32) + zA) + (1 : Int32)) + zB) + (1 : Int32)) + zC) ((((([] ++ vA) ++ [(.int 47)]) ++ vB) ++ [(.int 47)]) ++ vC) 8)) hZ (hw _ (mg (i := 134) rfl)) (hw _ (mg (i := 66) rfl)) (by decide) (by decide)) q102a q102c (g := (mkF m 38 #[.val (.ref a0)] [(.ref b31)])) rfl (by rw [hml]; rfl) (Steps.refl _) (argsL := []) (rest := []) (lenOf pd_9 rfl) rfl (by show 2 * 0 + _ ≤ _; exact Nat.le_of_eq rfl) (hb hby d11_38) (fun vmx hWx => ⟨rfl, rfl, (by decide : 4 + 2 ≤ _), (by decide : 28 + 12 ≤ _)⟩)
  dsimp only [Pt.U, Pt.locs, Pt.cells, Pt.slots] at X102 l102 y102 z102 st102 hQ102
  subst l102 y102 z102
  obtain ⟨b_102, vb_102, kb_102, rv102, Nq102, Kq102, u102_0, u102_1, u102_2, u102_3, u102_4⟩ := hQ102
  subst rv102
  have N102 := Fr.app N99 Nq102
  have g_b_102 : n0 ≤ b_102 := Nat.le_trans (own_le O100) u102_0
  have sz_b_102 : h0.size ≤ b_102 := Nat.le_trans K100.1 u102_0
  have K103 := K100.trans Kq102 all0
  have O103 := O100.keep Kq102 all0
  obtain ⟨fs, hrL, hrun, hended, hend⟩ := X102.leaveW (s := s) (vm₁ := T52.vm) hS52 (Nat.le_trans hk52 (Nat.le_trans (Nat.le_trans (Nat.le_trans (Nat.le_trans Kq61.1 Kq75.1) Kq86.1) Kq99.1) Kq102.1)) (v := some (.ref b_102)) (fun h => by rw [Bd.returns] at h; cases h)
  refine ⟨_, _, pre101 _ ?_, hrun, hended, _, _, rfl, ?_, ⟨_, rfl⟩, hend.2.1, hend.2.2.1, hend.2.2.2.mono (by decide) (by decide)⟩
  · refine st102.trans ?_
    show Steps p.tables e below (T102.setTop (mkF m 41 #[.val (.ref a0)] [(.ref b_102)])) _
    exact retOut X102 hx Bd.returns rfl (Or.inr (Or.inr (Or.inr (Or.inr ⟨rfl, rfl, rfl⟩)))) (hb hby d11_41) hrL
  · show Q_kts _ _ _ _ _ _ _ _ _ _ _ _ _ _ _ _ _ _ _ _ _  T102.heap T102.vm _
    exact ⟨b_102, vb_102, kb_102, rfl, N102, K103, sz_b_102, u102_1, u102_2, u102_3, u102_4, trivial⟩
theorem d38_0 : decode jdk_41_method_11_code 0 = .ok (.iload_n 0, 1) := by decide +kernel
theorem d38_1 : decode jdk_41_method_11_code 1 = .ok (.ifCond .lt 8, 3) := by decide +kernel
theorem d38_4 : decode jdk_41_method_11_code 4 = .ok (.iload_n 0, 1) := by decide +kernel
theorem d38_5 : decode jdk_41_method_11_code 5 = .ok (.iload_n 1, 1) := by decide +kernel
theorem d38_6 : decode jdk_41_method_11_code 6 = .ok (.if_icmp .lt 10, 3) := by decide +kernel
theorem d38_16 : decode jdk_41_method_11_code 16 = .ok (.iload_n 0, 1) := by decide +kernel
theorem d38_17 : decode jdk_41_method_11_code 17 = .ok (.ireturn, 1) := by decide +kernel
theorem pn_jdk_internal_util_Preconditions : plainName "jdk/internal/util/Preconditions" = true := by first | (simp [plainName, overriddenIn]; done) | decide +kernel
theorem ef_pci (m : MethodId) (i0 : Int32) (i1 : Int32) (fm : Value) (hr2 : fm.isRef = true) : entryFrame m #[(.int i0), (.int i1), fm] 3 = mkF m 0 #[.val (.int i0), .val (.int i1), .val fm] [] := by
  rcases own_refc hr2 with rfl | ⟨_, rfl⟩ <;> first | (simp [entryFrame, mkF, argsToLocals, Value.category]; done) | rfl
def Q_pci (Z : State) (i0 : Int32) (i1 : Int32) (fm : Value) (h0 : Heap) (n0 : Nat) (v : Option Value) (h : Heap) (L : List Loc) : Prop := v = some (.int i0) ∧ Fr n0 L ∧ h = h0
set_option maxRecDepth 65536 in
set_option maxHeartbeats 40000000 in
theorem pci (l : Launch) (Z : State) (av0 : Array Value) (hw : ∀ d ∈ tables_1, d.before av0 Z = true) (ws : List Jvm.Cond) (i0 : Int32) (i1 : Int32) (fm : Value) (h0 : Heap) (n0 : Nat) (Z0 : n0 ≤ h0.size) (p0_r : fm.isRef = true) (h0_ : ¬ (i0 < (0 : Int32))) (h1_ : i0 < i1) :
    MetFree l (⟨"jdk/internal/util/Preconditions", "checkIndex", "(IILjava/util/function/BiFunction;)I"⟩ : MethodName) (head1 (Jvm.Cond.code (⟨"jdk/internal/util/Preconditions", "checkIndex", "(IILjava/util/function/BiFunction;)I"⟩ : MethodName) jdk_41_method_11_code 3 (some .int) :: ws) ({ frames := 0, cells := 0, slots := 0, locals := 0 } : Room)) (fun a U => a = #[(.int i0), (.int i1), fm] ∧ Z.Warmed39 U.vm ∧ U.heap = h0) (fun _ _ _ _ _ => True) (fun _ U o U' => ∃ v L, o = .returned v ∧ Q_pci Z i0 i1 fm h0 n0 v U'.heap L ∧ FrameEnd U o U' L ({ frames := 0, cells := 0, slots := 0, locals := 0 } : Room).cells ({ frames := 0, cells := 0, slots := 0, locals := 0 } : Room).slots) := by
  refine MetFree.of_bodySF (plainFor_of_name pn_jdk_internal_util_Preconditions) hisR ?_
  intro p e s m args below meth c s₁ Bd hml0 hP hK
  obtain ⟨rfl, hZ, hh⟩ := hP
  have hx := Bd.exec
  have hby := Bd.bytes
  have hml : c.maxLocals = 3 := hml0
  have hown : s.vm.findClass "jdk/internal/util/Preconditions" = some m.cls := findClass_of_methodNamed Bd.named
  have hnm := (name_of_methodNamed Bd.named Bd.method).1
  have X0 : Stand p l e ({ frames := 0, cells := 0, slots := 0, locals := 0 } : Room) s m #[(.int i0), (.int i1), fm] below meth c s₁ [] 0 0 := Stand.of_body Bd
  have e0 : s₁.heap = h0 := by rw [← hh, Bd.state]; rfl
  have N0 := Fr.nil n0
  have pre0 : ∀ tz_, Steps p.tables e below (s₁.setTop (mkF m 0 #[.val (.int i0), .val (.int i1), .val fm] [])) tz_ → Steps p.tables e below (s₁.setTop (entryFrame m #[(.int i0), (.int i1), fm] 3)) tz_ := fun tz_ kz_ => castTop (ef_pci m i0 i1 fm p0_r) kz_
  obtain ⟨fs, hrL, hrun, hended, hW, hsame⟩ := X0.leave (v := some (.int i0)) (fun h => by rw [Bd.returns] at h; cases h)
  refine ⟨_, _, pre0 _ ?_, hrun, hended, _, _, rfl, ?_, ⟨_, rfl⟩, hW, hsame.mono (by decide) (by decide)⟩
  · show Steps p.tables e below (s₁.setTop (mkF m 0 #[.val (.int i0), .val (.int i1), .val fm] [])) _
    refine XS.iloadN X0.here hx rfl (hb hby d38_0) rfl ?_
    show Steps p.tables e below (s₁.setTop (mkF m 1 #[.val (.int i0), .val (.int i1), .val fm] [(.int i0)])) _
    refine XS.ifNo X0.here hx rfl (hb hby d38_1) rfl ((if0 _ _).trans (flt h0_).1) ?_
    refine XS.iloadN X0.here hx rfl (hb hby d38_4) rfl ?_
    show Steps p.tables e below (s₁.setTop (mkF m 5 #[.val (.int i0), .val (.int i1), .val fm] [(.int i0)])) _
    refine XS.iloadN X0.here hx rfl (hb hby d38_5) rfl ?_
    show Steps p.tables e below (s₁.setTop (mkF m 6 #[.val (.int i0), .val (.int i1), .val fm] [(.int i1), (.int i0)])) _
    refine XS.icmpYes X0.here hx rfl (pc0 := 6) (pc' := 16) rfl (hb hby d38_6) rfl (tlt h1_).1 (by decide) (by decide) ?_
    refine XS.iloadN X0.here hx rfl (hb hby d38_16) rfl ?_
    show Steps p.tables e below (s₁.setTop (mkF m 17 #[.val (.int i0), .val (.int i1), .val fm] [(.int i0)])) _
    exact retI X0 hx Bd.returns (hb hby d38_17) hrL
  · show Q_pci _ _ _ _ _ _ _  s₁.heap _
    rw [e0]
    exact ⟨rfl, N0, rfl⟩
theorem d37_0 : decode jdk_42_method_155_code 0 = .ok (.iload_n 0, 1) := by decide +kernel
theorem d37_1 : decode jdk_42_method_155_code 1 = .ok (.iload_n 1, 1) := by decide +kernel
theorem d37_2 : decode jdk_42_method_155_code 2 = .ok (.getstatic 1053, 3) := by decide +kernel
theorem d37_5 : decode jdk_42_method_155_code 5 = .ok (.invokestatic 1059, 3) := by decide +kernel
theorem pd_29 : parseMethodDescriptor "(IILjava/util/function/BiFunction;)I" = some ⟨[.int, .int, (.object "java/util/function/BiFunction")], some .int⟩ := by decide +kernel
theorem d37_8 : decode jdk_42_method_155_code 8 = .ok (.pop, 1) := by decide +kernel
theorem d37_9 : decode jdk_42_method_155_code 9 = .ok (.return_, 1) := by decide +kernel
theorem ef_sci (m : MethodId) (i0 : Int32) (i1 : Int32) : entryFrame m #[(.int i0), (.int i1)] 2 = mkF m 0 #[.val (.int i0), .val (.int i1)] [] := by first | (simp [entryFrame, mkF, argsToLocals, Value.category]; done) | rfl
def Q_sci (Z : State) (i0 : Int32) (i1 : Int32) (fm : Value) (h0 : Heap) (n0 : Nat) (v : Option Value) (h : Heap) (L : List Loc) : Prop := v = none ∧ Fr n0 L ∧ h = h0
set_option maxRecDepth 65536 in
set_option maxHeartbeats 40000000 in
theorem sci (l : Launch) (Z : State) (av0 : Array Value) (hw : ∀ d ∈ tables_1, d.before av0 Z = true) (ws : List Jvm.Cond) (i0 : Int32) (i1 : Int32) (fm : Value) (h0 : Heap) (n0 : Nat) (Z0 : n0 ≤ h0.size) (p0_O : Old Z n0 h0) (p1_S : Sta Z Z.heap "jdk/internal/util/Preconditions" "SIOOBE_FORMATTER" "Ljava/util/function/BiFunction;" fm) (p2_r : fm.isRef = true) (h0_ : ¬ (i0 < (0 : Int32))) (h1_ : i0 < i1) :
    MetFree l (⟨"java/lang/String", "checkIndex", "(II)V"⟩ : MethodName) (head1 (Jvm.Cond.code (⟨"java/lang/String", "checkIndex", "(II)V"⟩ : MethodName) jdk_42_method_155_code 2 none :: ws) ({ frames := 1, cells := 0, slots := 0, locals := 14 } : Room)) (fun a U => a = #[(.int i0), (.int i1)] ∧ Z.Warmed39 U.vm ∧ U.heap = h0) (fun _ _ _ _ _ => True) (fun _ U o U' => ∃ v L, o = .returned v ∧ Q_sci Z i0 i1 fm h0 n0 v U'.heap L ∧ FrameEnd U o U' L ({ frames := 1, cells := 0, slots := 0, locals := 14 } : Room).cells ({ frames := 1, cells := 0, slots := 0, locals := 14 } : Room).slots) := by
  refine MetFree.of_bodySF (plainFor_of_name pn_java_lang_String) hisR ?_
  intro p e s m args below meth c s₁ Bd hml0 hP hK
  obtain ⟨rfl, hZ, hh⟩ := hP
  have hx := Bd.exec
  have hby := Bd.bytes
  have hml : c.maxLocals = 2 := hml0
  have hown : s.vm.findClass "java/lang/String" = some m.cls := findClass_of_methodNamed Bd.named
  have hnm := (name_of_methodNamed Bd.named Bd.method).1
  have X0 : Stand p l e ({ frames := 1, cells := 0, slots := 0, locals := 14 } : Room) s m #[(.int i0), (.int i1)] below meth c s₁ [] 0 0 := Stand.of_body Bd
  have e0 : s₁.heap = h0 := by rw [← hh, Bd.state]; rfl
  have N0 := Fr.nil n0
  have pre0 : ∀ tz_, Steps p.tables e below (s₁.setTop (mkF m 0 #[.val (.int i0), .val (.int i1)] [])) tz_ → Steps p.tables e below (s₁.setTop (entryFrame m #[(.int i0), (.int i1)] 2)) tz_ := fun tz_ kz_ => castTop (ef_sci m i0 i1) kz_
  obtain ⟨T31, X31, e31, st31⟩ := getS2 X0 hx hZ hown (host := "") (Or.inl (hw _ (mg (i := 195) rfl))) Via.refl e0 (p1_S.ext p0_O.2) (g := (mkF m 2 #[.val (.int i0), .val (.int i1)] [(.int i1), (.int i0)])) rfl (hb hby d37_2)
  -- pc 5: Preconditions.checkIndex
  obtain ⟨_, _, ⟨T32, L32, k32, n32⟩, -, X32, ⟨Lc32, hQ32, l32, y32, z32⟩, st32⟩ := Jvm.LawKit.callS X31 hx (y := (⟨"jdk/internal/util/Preconditions", "checkIndex", "(IILjava/util/function/BiFunction;)I"⟩ : MethodName)) hown (mvT hZ (hw _ (mg (i := 197) rfl))) (mvT hZ (hw _ (mg (i := 198) rfl))) (mvT hZ (hw _ (mg (i := 196) rfl))) (mvT hZ (hw _ (mg (i := 199) rfl))) (by decide) (backOf (W := 0) (pci l Z av0 hw [] i0 i1 fm h0 n0 (own_le p0_O) p2_r (h0_ : ¬ (i0 < (0 : Int32))) (h1_ : i0 < i1)) hZ (hw _ (mg (i := 199) rfl)) (hw _ (mg (i := 196) rfl)) (by decide) (by decide)) (g := (mkF m 5 #[.val (.int i0), .val (.int i1)] [fm, (.int i1), (.int i0)])) rfl (by rw [hml]; rfl) (argsL := [(.int i0), (.int i1), fm]) (rest := []) (lenOf pd_29 rfl) rfl (by show 2 * 0 + _ ≤ _; exact Nat.le_of_eq rfl) (hb hby d37_5) (fun vmx hWx => ⟨rfl, e31, (by decide : 0 + 0 ≤ _), (by decide : 0 + 0 ≤ _)⟩)
  dsimp only [Pt.U, Pt.locs, Pt.cells, Pt.slots] at X32 l32 y32 z32 st32 hQ32
  subst l32 y32 z32
  obtain ⟨rv32, Nq32, Kq32⟩ := hQ32
  subst rv32
  have N32 := Fr.app N0 Nq32
  obtain ⟨fs, hrL, hrun, hended, hW, hsame⟩ := X32.leave (v := none) (fun _ => rfl)
  refine ⟨_, _, pre0 _ ?_, hrun, hended, _, _, rfl, ?_, ⟨_, rfl⟩, hW, hsame.mono (by decide) (by decide)⟩
  · show Steps p.tables e below (s₁.setTop (mkF m 0 #[.val (.int i0), .val (.int i1)] [])) _
    refine XS.iloadN X0.here hx rfl (hb hby d37_0) rfl ?_
    refine XS.iloadN X0.here hx rfl (hb hby d37_1) rfl ?_
    show Steps p.tables e below (s₁.setTop (mkF m 2 #[.val (.int i0), .val (.int i1)] [(.int i1), (.int i0)])) _
    refine st31 _ ?_
    show Steps p.tables e below (T31.setTop (mkF m 5 #[.val (.int i0), .val (.int i1)] [fm, (.int i1), (.int i0)])) _
    refine st32 _ ?_
    refine XS.pop X32.here hx rfl (hb hby d37_8) rfl rfl ?_
    show Steps p.tables e below (T32.setTop (mkF m 9 #[.val (.int i0), .val (.int i1)] [])) _
    exact X32.returnOut hx Bd.returns (hb hby d37_9) hrL
  · show Q_sci _ _ _ _ _ _ _  T32.heap _
    rw [Kq32]
    exact ⟨rfl, N32, rfl⟩
theorem own_narc (x : Int32) : narrow .char (.int (x &&& (255 : Int32))) = .int (x &&& (255 : Int32)) := by first | exact congrArg Value.int (i2c_mask x) | (simp only [narrow]; rw [i2c_mask])
theorem d36_0 : decode jdk_43_method_2_code 0 = .ok (.iload_n 1, 1) := by decide +kernel
theorem d36_1 : decode jdk_43_method_2_code 1 = .ok (.aload_n 0, 1) := by decide +kernel
theorem d36_2 : decode jdk_43_method_2_code 2 = .ok (.arraylength, 1) := by decide +kernel
theorem d36_3 : decode jdk_43_method_2_code 3 = .ok (.invokestatic 9, 3) := by decide +kernel
theorem d36_6 : decode jdk_43_method_2_code 6 = .ok (.aload_n 0, 1) := by decide +kernel
theorem d36_7 : decode jdk_43_method_2_code 7 = .ok (.iload_n 1, 1) := by decide +kernel
theorem d36_8 : decode jdk_43_method_2_code 8 = .ok (.baload, 1) := by decide +kernel
theorem d36_9 : decode jdk_43_method_2_code 9 = .ok (.sipush 255, 3) := by decide +kernel
theorem d36_12 : decode jdk_43_method_2_code 12 = .ok (.iand, 1) := by decide +kernel
theorem d36_13 : decode jdk_43_method_2_code 13 = .ok (.i2c, 1) := by decide +kernel
theorem d36_14 : decode jdk_43_method_2_code 14 = .ok (.ireturn, 1) := by decide +kernel
theorem ef_l1c (m : MethodId) (a0 : Addr) (i1 : Int32) : entryFrame m #[(.ref a0), (.int i1)] 2 = mkF m 0 #[.val (.ref a0), .val (.int i1)] [] := by first | (simp [entryFrame, mkF, argsToLocals, Value.category]; done) | rfl
def Q_l1c (Z : State) (a0 : Addr) (i1 : Int32) (ka : ClassId) (z : Int32) (vs : List Value) (xx : Int32) (fm : Value) (h0 : Heap) (n0 : Nat) (v : Option Value) (h : Heap) (L : List Loc) : Prop := v = some (.int (xx &&& (255 : Int32))) ∧ Fr n0 L ∧ h = h0
set_option maxRecDepth 65536 in
set_option maxHeartbeats 40000000 in
theorem l1c (l : Launch) (Z : State) (av0 : Array Value) (hw : ∀ d ∈ tables_1, d.before av0 Z = true) (ws : List Jvm.Cond) (a0 : Addr) (i1 : Int32) (ka : ClassId) (z : Int32) (vs : List Value) (xx : Int32) (fm : Value) (h0 : Heap) (n0 : Nat) (Z0 : n0 ≤ h0.size) (p0_O : Old Z n0 h0) (p1_S : Sta Z Z.heap "jdk/internal/util/Preconditions" "SIOOBE_FORMATTER" "Ljava/util/function/BiFunction;" fm) (p2_r : fm.isRef = true) (p3_A : Arv Z h0 a0 ka .byte z vs (.int 0)) (h0_ : ¬ (i1 < (0 : Int32))) (h1_ : i1 < z) (h2_ : vs.getD i1.toNatClampNeg (.int 0) = .int xx) :
    MetFree l (⟨"java/lang/StringLatin1", "charAt", "([BI)C"⟩ : MethodName) (head1 (Jvm.Cond.code (⟨"java/lang/StringLatin1", "charAt", "([BI)C"⟩ : MethodName) jdk_43_method_2_code 2 (some .char) :: ws) ({ frames := 2, cells := 0, slots := 0, locals := 27 } : Room)) (fun a U => a = #[(.ref a0), (.int i1)] ∧ Z.Warmed39 U.vm ∧ U.heap = h0) (fun _ _ _ _ _ => True) (fun _ U o U' => ∃ v L, o = .returned v ∧ Q_l1c Z a0 i1 ka z vs xx fm h0 n0 v U'.heap L ∧ FrameEnd U o U' L ({ frames := 2, cells := 0, slots := 0, locals := 27 } : Room).cells ({ frames := 2, cells := 0, slots := 0, locals := 27 } : Room).slots) := by
  refine MetFree.of_bodySF (plainFor_of_name pn_java_lang_StringLatin1) hisR ?_
  intro p e s m args below meth c s₁ Bd hml0 hP hK
  obtain ⟨rfl, hZ, hh⟩ := hP
  have hx := Bd.exec
  have hby := Bd.bytes
  have hml : c.maxLocals = 2 := hml0
  have hown : s.vm.findClass "java/lang/StringLatin1" = some m.cls := findClass_of_methodNamed Bd.named
  have hnm := (name_of_methodNamed Bd.named Bd.method).1
  have X0 : Stand p l e ({ frames := 2, cells := 0, slots := 0, locals := 27 } : Room) s m #[(.ref a0), (.int i1)] below meth c s₁ [] 0 0 := Stand.of_body Bd
  have e0 : s₁.heap = h0 := by rw [← hh, Bd.state]; rfl
  have N0 := Fr.nil n0
  have pre0 : ∀ tz_, Steps p.tables e below (s₁.setTop (mkF m 0 #[.val (.ref a0), .val (.int i1)] [])) tz_ → Steps p.tables e below (s₁.setTop (entryFrame m #[(.ref a0), (.int i1)] 2)) tz_ := fun tz_ kz_ => castTop (ef_l1c m a0 i1) kz_
  obtain ⟨cl31, Ar31, -, qs31, qn31, -, -⟩ := id p3_A
  -- pc 3: String.checkIndex
  obtain ⟨_, _, ⟨T32, L32, k32, n32⟩, -, X32, ⟨Lc32, hQ32, l32, y32, z32⟩, st32⟩ := Jvm.LawKit.callS X0 hx (y := (⟨"java/lang/String", "checkIndex", "(II)V"⟩ : MethodName)) hown (mvT hZ (hw _ (mg (i := 192) rfl))) (mvT hZ (hw _ (mg (i := 193) rfl))) (mvT hZ (hw _ (mg (i := 6) rfl))) (mvT hZ (hw _ (mg (i := 194) rfl))) (by decide) (backOf (W := 0) (sci l Z av0 hw [] i1 z fm h0 n0 (own_le p0_O) p0_O p1_S p2_r (h0_ : ¬ (i1 < (0 : Int32))) (h1_ : i1 < z)) hZ (hw _ (mg (i := 194) rfl)) (hw _ (mg (i := 6) rfl)) (by decide) (by decide)) (g := (mkF m 3 #[.val (.ref a0), .val (.int i1)] [(.int z), (.int i1)])) rfl (by rw [hml]; rfl) (argsL := [(.int i1), (.int z)]) (rest := []) (lenOf pd_24 rfl) rfl (by show 2 * 0 + _ ≤ _; exact Nat.le_of_eq rfl) (hb hby d36_3) (fun vmx hWx => ⟨rfl, e0, (by decide : 0 + 0 ≤ _), (by decide : 0 + 0 ≤ _)⟩)
  dsimp only [Pt.U, Pt.locs, Pt.cells, Pt.slots] at X32 l32 y32 z32 st32 hQ32
  subst l32 y32 z32
  obtain ⟨rv32, Nq32, Kq32⟩ := hQ32
  subst rv32
  have N32 := Fr.app N0 Nq32
  obtain ⟨cl33, Ar33, qk33, qs33, qn33, qh33, qg33⟩ := id p3_A
  have hin33 : ¬ (i1 < 0 ∨ cl33.slots.size ≤ (i1).toNatClampNeg) := inb_of qs33 ⟨h0_, h1_⟩
  have hat33 : cl33.slots[(i1).toNatClampNeg]? = some (.int xx) := qh33.at hin33 h2_
  obtain ⟨fs, hrL, hrun, hended, hW, hsame⟩ := X32.leave (v := some (.int (xx &&& (255 : Int32)))) (fun h => by rw [Bd.returns] at h; cases h)
  refine ⟨_, _, pre0 _ ?_, hrun, hended, _, _, rfl, ?_, ⟨_, rfl⟩, hW, hsame.mono (by decide) (by decide)⟩
  · show Steps p.tables e below (s₁.setTop (mkF m 0 #[.val (.ref a0), .val (.int i1)] [])) _
    refine XS.iloadN X0.here hx rfl (hb hby d36_0) rfl ?_
    refine XS.aloadN X0.here hx rfl (hb hby d36_1) rfl rfl ?_
    show Steps p.tables e below (s₁.setTop (mkF m 2 #[.val (.ref a0), .val (.int i1)] [(.ref a0), (.int i1)])) _
    refine X0.arraylength hx (by rw [e0]; exact Ar31.1) (State.isArrayOf_alike hZ.alike Ar31.2.1) (g := (mkF m 2 #[.val (.ref a0), .val (.int i1)] [(.ref a0), (.int i1)])) rfl rfl (hb hby d36_2) _ ?_
    rw [len_of qs31 qn31]
    show Steps p.tables e below (s₁.setTop (mkF m 3 #[.val (.ref a0), .val (.int i1)] [(.int z), (.int i1)])) _
    refine st32 _ ?_
    refine XS.aloadN X32.here hx rfl (hb hby d36_6) rfl rfl ?_
    refine XS.iloadN X32.here hx rfl (hb hby d36_7) rfl ?_
    show Steps p.tables e below (T32.setTop (mkF m 8 #[.val (.ref a0), .val (.int i1)] [(.int i1), (.ref a0)])) _
    refine X32.baloadBytes hx (j := i1) (v := (.int xx)) (by rw [Kq32]; exact Ar33.1) (State.isArrayOf_alike hZ.alike Ar33.2.1) Ar33.2.2 hin33 hat33 (g := (mkF m 8 #[.val (.ref a0), .val (.int i1)] [(.int i1), (.ref a0)])) rfl rfl (hb hby d36_8) _ ?_
    show Steps p.tables e below (T32.setTop (mkF m 9 #[.val (.ref a0), .val (.int i1)] [(.int xx)])) _
    refine XS.sipush X32.here hx rfl (hb hby d36_9) ?_
    show Steps p.tables e below (T32.setTop (mkF m 12 #[.val (.ref a0), .val (.int i1)] [(.int 255), (.int xx)])) _
    refine XS.iand X32.here hx rfl (hb hby d36_12) rfl ?_
    show Steps p.tables e below (T32.setTop (mkF m 13 #[.val (.ref a0), .val (.int i1)] [(.int (xx &&& (255 : Int32)))])) _
    refine XS.i2c X32.here hx rfl (hb hby d36_13) rfl ?_
    show Steps p.tables e below (T32.setTop (mkF m 14 #[.val (.ref a0), .val (.int i1)] [(.int ((xx &&& (255 : Int32)).toUInt32.toUInt16.toUInt32.toInt32))])) _
    rw [i2c_mask]
    show Steps p.tables e below (T32.setTop (mkF m 14 #[.val (.ref a0), .val (.int i1)] [(.int (xx &&& (255 : Int32)))])) _
    exact retOut X32 hx Bd.returns (own_narc xx) (Or.inl ⟨rfl, by simp, _, rfl⟩) (hb hby d36_14) hrL
  · show Q_l1c _ _ _ _ _ _ _ _ _ _ _  T32.heap _
    rw [Kq32]
    exact ⟨rfl, N32, rfl⟩
theorem d35_0 : decode jdk_42_method_154_code 0 = .ok (.getstatic 38, 3) := by decide +kernel
theorem d35_3 : decode jdk_42_method_154_code 3 = .ok (.ifCond .eq 14, 3) := by decide +kernel
theorem d35_6 : decode jdk_42_method_154_code 6 = .ok (.aload_n 0, 1) := by decide +kernel
theorem d35_7 : decode jdk_42_method_154_code 7 = .ok (.getfield 15, 3) := by decide +kernel
theorem d35_10 : decode jdk_42_method_154_code 10 = .ok (.ifCond .ne 7, 3) := by decide +kernel
theorem d35_13 : decode jdk_42_method_154_code 13 = .ok (.iconst 1, 1) := by decide +kernel
theorem d35_14 : decode jdk_42_method_154_code 14 = .ok (.goto 4, 3) := by decide +kernel
theorem d35_18 : decode jdk_42_method_154_code 18 = .ok (.ireturn, 1) := by decide +kernel
theorem ef_sil (m : MethodId) (a0 : Addr) : entryFrame m #[(.ref a0)] 1 = mkF m 0 #[.val (.ref a0)] [] := by first | (simp [entryFrame, mkF, argsToLocals, Value.category]; done) | rfl
def Q_sil (Z : State) (a0 : Addr) (cs : Int32) (h0 : Heap) (n0 : Nat) (v : Option Value) (h : Heap) (L : List Loc) : Prop := v = some (.int 1) ∧ Fr n0 L ∧ h = h0
set_option maxRecDepth 65536 in
set_option maxHeartbeats 40000000 in
theorem sil (l : Launch) (Z : State) (av0 : Array Value) (hw : ∀ d ∈ tables_1, d.before av0 Z = true) (ws : List Jvm.Cond) (a0 : Addr) (cs : Int32) (h0 : Heap) (n0 : Nat) (Z0 : n0 ≤ h0.size) (p0_O : Old Z n0 h0) (p1_S : Sta Z Z.heap "java/lang/String" "COMPACT_STRINGS" "Z" (.int cs)) (hcs : ¬ (cs = (0 : Int32))) (p3_F : Fld Z h0 a0 "java/lang/String" "coder" "B" (.int 0)) :
    MetFree l (⟨"java/lang/String", "isLatin1", "()Z"⟩ : MethodName) (head1 (Jvm.Cond.code (⟨"java/lang/String", "isLatin1", "()Z"⟩ : MethodName) jdk_42_method_154_code 1 (some .boolean) :: ws) ({ frames := 0, cells := 0, slots := 0, locals := 0 } : Room)) (fun a U => a = #[(.ref a0)] ∧ Z.Warmed39 U.vm ∧ U.heap = h0) (fun _ _ _ _ _ => True) (fun _ U o U' => ∃ v L, o = .returned v ∧ Q_sil Z a0 cs h0 n0 v U'.heap L ∧ FrameEnd U o U' L ({ frames := 0, cells := 0, slots := 0, locals := 0 } : Room).cells ({ frames := 0, cells := 0, slots := 0, locals := 0 } : Room).slots) := by
  refine MetFree.of_bodySF (plainFor_of_name pn_java_lang_String) hisR ?_
  intro p e s m args below meth c s₁ Bd hml0 hP hK
  obtain ⟨rfl, hZ, hh⟩ := hP
  have hx := Bd.exec
  have hby := Bd.bytes
  have hml : c.maxLocals = 1 := hml0
  have hown : s.vm.findClass "java/lang/String" = some m.cls := findClass_of_methodNamed Bd.named
  have hnm := (name_of_methodNamed Bd.named Bd.method).1
  have X0 : Stand p l e ({ frames := 0, cells := 0, slots := 0, locals := 0 } : Room) s m #[(.ref a0)] below meth c s₁ [] 0 0 := Stand.of_body Bd
  have e0 : s₁.heap = h0 := by rw [← hh, Bd.state]; rfl
  have N0 := Fr.nil n0
  have pre0 : ∀ tz_, Steps p.tables e below (s₁.setTop (mkF m 0 #[.val (.ref a0)] [])) tz_ → Steps p.tables e below (s₁.setTop (entryFrame m #[(.ref a0)] 1)) tz_ := fun tz_ kz_ => castTop (ef_sil m a0) kz_
  obtain ⟨T31, X31, e31, st31⟩ := getS2 X0 hx hZ hown (host := "") (Or.inl (hw _ (mg (i := 8) rfl))) Via.refl e0 (p1_S.ext p0_O.2) (g := (mkF m 0 #[.val (.ref a0)] [])) rfl (hb hby d35_0)
  obtain ⟨T32, X32, e32, st32⟩ := getF X31 hx hZ hown (host := "") (Or.inl (hw _ (mg (i := 28) rfl))) Via.refl e31 p3_F (g := (mkF m 7 #[.val (.ref a0)] [(.ref a0)])) rfl rfl (hb hby d35_7)
  obtain ⟨fs, hrL, hrun, hended, hW, hsame⟩ := X32.leave (v := some (.int 1)) (fun h => by rw [Bd.returns] at h; cases h)
  refine ⟨_, _, pre0 _ ?_, hrun, hended, _, _, rfl, ?_, ⟨_, rfl⟩, hW, hsame.mono (by decide) (by decide)⟩
  · show Steps p.tables e below (s₁.setTop (mkF m 0 #[.val (.ref a0)] [])) _
    refine st31 _ ?_
    show Steps p.tables e below (T31.setTop (mkF m 3 #[.val (.ref a0)] [(.int cs)])) _
    refine XS.ifNo X31.here hx rfl (hb hby d35_3) rfl ((if0 _ _).trans (feq hcs).1) ?_
    refine XS.aloadN X31.here hx rfl (hb hby d35_6) rfl rfl ?_
    show Steps p.tables e below (T31.setTop (mkF m 7 #[.val (.ref a0)] [(.ref a0)])) _
    refine st32 _ ?_
    show Steps p.tables e below (T32.setTop (mkF m 10 #[.val (.ref a0)] [(.int 0)])) _
    refine XS.ifNo X32.here hx rfl (hb hby d35_10) rfl ((if0 _ _).trans (teq (by decide : (0 : Int32) = (0 : Int32))).2) ?_
    refine XS.iconst X32.here hx rfl (hb hby d35_13) ?_
    refine XS.goto X32.here hx rfl (pc0 := 14) (pc' := 18) rfl (hb hby d35_14) (by decide) (by decide) ?_
    show Steps p.tables e below (T32.setTop (mkF m 18 #[.val (.ref a0)] [(.int 1)])) _
    exact retN X32 hx (t := .boolean) Bd.returns (by simp) (hb hby d35_18) hrL
  · show Q_sil _ _ _ _ _ _  T32.heap _
    rw [e32]
    exact ⟨rfl, N0, rfl⟩
theorem d34_0 : decode jdk_42_method_56_code 0 = .ok (.aload_n 0, 1) := by decide +kernel
theorem d34_1 : decode jdk_42_method_56_code 1 = .ok (.invokevirtual 492, 3) := by decide +kernel
theorem d34_4 : decode jdk_42_method_56_code 4 = .ok (.ifCond .eq 12, 3) := by decide +kernel
theorem d34_7 : decode jdk_42_method_56_code 7 = .ok (.aload_n 0, 1) := by decide +kernel
theorem d34_8 : decode jdk_42_method_56_code 8 = .ok (.getfield 9, 3) := by decide +kernel
theorem d34_11 : decode jdk_42_method_56_code 11 = .ok (.iload_n 1, 1) := by decide +kernel
theorem d34_12 : decode jdk_42_method_56_code 12 = .ok (.invokestatic 495, 3) := by decide +kernel
theorem pd_28 : parseMethodDescriptor "([BI)C" = some ⟨[(.array .byte), .int], some .char⟩ := by decide +kernel
theorem d34_15 : decode jdk_42_method_56_code 15 = .ok (.ireturn, 1) := by decide +kernel
theorem ef_cha (m : MethodId) (a0 : Addr) (i1 : Int32) : entryFrame m #[(.ref a0), (.int i1)] 2 = mkF m 0 #[.val (.ref a0), .val (.int i1)] [] := by first | (simp [entryFrame, mkF, argsToLocals, Value.category]; done) | rfl
def Q_cha (Z : State) (a0 : Addr) (i1 : Int32) (va : Addr) (ka : ClassId) (z : Int32) (vs : List Value) (xx : Int32) (fm : Value) (cs : Int32) (h0 : Heap) (n0 : Nat) (v : Option Value) (h : Heap) (L : List Loc) : Prop := v = some (.int (xx &&& (255 : Int32))) ∧ Fr n0 L ∧ h = h0
set_option maxRecDepth 65536 in
set_option maxHeartbeats 40000000 in
theorem cha (l : Launch) (Z : State) (av0 : Array Value) (hw : ∀ d ∈ tables_1, d.before av0 Z = true) (ws : List Jvm.Cond) (a0 : Addr) (i1 : Int32) (va : Addr) (ka : ClassId) (z : Int32) (vs : List Value) (xx : Int32) (fm : Value) (cs : Int32) (h0 : Heap) (n0 : Nat) (Z0 : n0 ≤ h0.size) (p0_O : Old Z n0 h0) (p1_S : Sta Z Z.heap "java/lang/String" "COMPACT_STRINGS" "Z" (.int cs)) (hcs : ¬ (cs = (0 : Int32))) (p3_S : Sta Z Z.heap "jdk/internal/util/Preconditions" "SIOOBE_FORMATTER" "Ljava/util/function/BiFunction;" fm) (p4_r : fm.isRef = true) (p5_E : Exa Z h0 a0 "java/lang/String") (p6_F : Fld Z h0 a0 "java/lang/String" "coder" "B" (.int 0)) (p7_F : Fld Z h0 a0 "java/lang/String" "value" "[B" (.ref va)) (p8_A : Arv Z h0 va ka .byte z vs (.int 0)) (h0_ : ¬ (i1 < (0 : Int32))) (h1_ : i1 < z) (h2_ : vs.getD i1.toNatClampNeg (.int 0) = .int xx) :
    MetFree l (⟨"java/lang/String", "charAt", "(I)C"⟩ : MethodName) (head1 (Jvm.Cond.code (⟨"java/lang/String", "charAt", "(I)C"⟩ : MethodName) jdk_42_method_56_code 2 (some .char) :: ws) ({ frames := 3, cells := 0, slots := 0, locals := 40 } : Room)) (fun a U => a = #[(.ref a0), (.int i1)] ∧ Z.Warmed39 U.vm ∧ U.heap = h0) (fun _ _ _ _ _ => True) (fun _ U o U' => ∃ v L, o = .returned v ∧ Q_cha Z a0 i1 va ka z vs xx fm cs h0 n0 v U'.heap L ∧ FrameEnd U o U' L ({ frames := 3, cells := 0, slots := 0, locals := 40 } : Room).cells ({ frames := 3, cells := 0, slots := 0, locals := 40 } : Room).slots) := by
  refine MetFree.of_bodySF (plainFor_of_name pn_java_lang_String) hisR ?_
  intro p e s m args below meth c s₁ Bd hml0 hP hK
  obtain ⟨rfl, hZ, hh⟩ := hP
  have hx := Bd.exec
  have hby := Bd.bytes
  have hml : c.maxLocals = 2 := hml0
  have hown : s.vm.findClass "java/lang/String" = some m.cls := findClass_of_methodNamed Bd.named
  have hnm := (name_of_methodNamed Bd.named Bd.method).1
  have X0 : Stand p l e ({ frames := 3, cells := 0, slots := 0, locals := 40 } : Room) s m #[(.ref a0), (.int i1)] below meth c s₁ [] 0 0 := Stand.of_body Bd
  have e0 : s₁.heap = h0 := by rw [← hh, Bd.state]; rfl
  have N0 := Fr.nil n0
  have pre0 : ∀ tz_, Steps p.tables e below (s₁.setTop (mkF m 0 #[.val (.ref a0), .val (.int i1)] [])) tz_ → Steps p.tables e below (s₁.setTop (entryFrame m #[(.ref a0), (.int i1)] 2)) tz_ := fun tz_ kz_ => castTop (ef_cha m a0 i1) kz_
  -- pc 1: String.isLatin1
  obtain ⟨cq31, kq31, q31a, q31b, q31c⟩ := isOf hZ e0 p5_E
  obtain ⟨_, _, ⟨T31, L31, k31, n31⟩, -, X31, ⟨Lc31, hQ31, l31, y31, z31⟩, st31⟩ := X0.virtualBack hx (y := (⟨"java/lang/String", "isLatin1", "()Z"⟩ : MethodName)) (z := (⟨"java/lang/String", "isLatin1", "()Z"⟩ : MethodName)) hown (mvT hZ (hw _ (mg (i := 184) rfl))) (mvT hZ (hw _ (mg (i := 185) rfl))) (notFace_of_selects (args := #[]) (mvT hZ (hw _ (mg (i := 187) rfl)))) (mvT hZ (hw _ (mg (i := 187) rfl))) (mvT hZ (hw _ (mg (i := 186) rfl))) (by decide) (backOf (W := 0) (sil l Z av0 hw [] a0 cs h0 n0 (own_le p0_O) p0_O p1_S (hcs : ¬ (cs = (0 : Int32))) p6_F) hZ (hw _ (mg (i := 188) rfl)) (hw _ (mg (i := 6) rfl)) (by decide) (by decide)) q31a q31c (g := (mkF m 1 #[.val (.ref a0), .val (.int i1)] [(.ref a0)])) rfl (by rw [hml]; rfl) (Steps.refl _) (argsL := []) (rest := []) (lenOf pd_22 rfl) rfl (by show 2 * 0 + _ ≤ _; exact Nat.le_of_eq rfl) (hb hby d34_1) (fun vmx hWx => ⟨rfl, e0, (by decide : 0 + 0 ≤ _), (by decide : 0 + 0 ≤ _)⟩)
  dsimp only [Pt.U, Pt.locs, Pt.cells, Pt.slots] at X31 l31 y31 z31 st31 hQ31
  subst l31 y31 z31
  obtain ⟨rv31, Nq31, Kq31⟩ := hQ31
  subst rv31
  have N31 := Fr.app N0 Nq31
  obtain ⟨T32, X32, e32, st32⟩ := getF X31 hx hZ hown (host := "") (Or.inl (hw _ (mg (i := 26) rfl))) Via.refl Kq31 p7_F (g := (mkF m 8 #[.val (.ref a0), .val (.int i1)] [(.ref a0)])) rfl rfl (hb hby d34_8)
  -- pc 12: StringLatin1.charAt
  obtain ⟨_, _, ⟨T33, L33, k33, n33⟩, -, X33, ⟨Lc33, hQ33, l33, y33, z33⟩, st33⟩ := Jvm.LawKit.callS X32 hx (y := (⟨"java/lang/StringLatin1", "charAt", "([BI)C"⟩ : MethodName)) hown (mvT hZ (hw _ (mg (i := 189) rfl))) (mvT hZ (hw _ (mg (i := 190) rfl))) (mvT hZ (hw _ (mg (i := 11) rfl))) (mvT hZ (hw _ (mg (i := 191) rfl))) (by decide) (backOf (W := 0) (l1c l Z av0 hw [] va i1 ka z vs xx fm h0 n0 (own_le p0_O) p0_O p3_S p4_r p8_A (h0_ : ¬ (i1 < (0 : Int32))) (h1_ : i1 < z) (h2_ : vs.getD i1.toNatClampNeg (.int 0) = .int xx)) hZ (hw _ (mg (i := 191) rfl)) (hw _ (mg (i := 11) rfl)) (by decide) (by decide)) (g := (mkF m 12 #[.val (.ref a0), .val (.int i1)] [(.int i1), (.ref va)])) rfl (by rw [hml]; rfl) (argsL := [(.ref va), (.int i1)]) (rest := []) (lenOf pd_28 rfl) rfl (by show 2 * 0 + _ ≤ _; exact Nat.le_of_eq rfl) (hb hby d34_12) (fun vmx hWx => ⟨rfl, e32, (by decide : 0 + 0 ≤ _), (by decide : 0 + 0 ≤ _)⟩)
  dsimp only [Pt.U, Pt.locs, Pt.cells, Pt.slots] at X33 l33 y33 z33 st33 hQ33
  subst l33 y33 z33
  obtain ⟨rv33, Nq33, Kq33⟩ := hQ33
  subst rv33
  have N33 := Fr.app N31 Nq33
  obtain ⟨fs, hrL, hrun, hended, hW, hsame⟩ := X33.leave (v := some (.int (xx &&& (255 : Int32)))) (fun h => by rw [Bd.returns] at h; cases h)
  refine ⟨_, _, pre0 _ ?_, hrun, hended, _, _, rfl, ?_, ⟨_, rfl⟩, hW, hsame.mono (by decide) (by decide)⟩
  · show Steps p.tables e below (s₁.setTop (mkF m 0 #[.val (.ref a0), .val (.int i1)] [])) _
    refine XS.aloadN X0.here hx rfl (hb hby d34_0) rfl rfl ?_
    show Steps p.tables e below (s₁.setTop (mkF m 1 #[.val (.ref a0), .val (.int i1)] [(.ref a0)])) _
    refine st31.trans ?_
    show Steps p.tables e below (T31.setTop (mkF m 4 #[.val (.ref a0), .val (.int i1)] [(.int 1)])) _
    refine XS.ifNo X31.here hx rfl (hb hby d34_4) rfl ((if0 _ _).trans (feq (by decide : ¬ ((1 : Int32) = (0 : Int32)))).1) ?_
    show Steps p.tables e below (T31.setTop (mkF m 7 #[.val (.ref a0), .val (.int i1)] [])) _
    refine XS.aloadN X31.here hx rfl (hb hby d34_7) rfl rfl ?_
    show Steps p.tables e below (T31.setTop (mkF m 8 #[.val (.ref a0), .val (.int i1)] [(.ref a0)])) _
    refine st32 _ ?_
    refine XS.iloadN X32.here hx rfl (hb hby d34_11) rfl ?_
    show Steps p.tables e below (T32.setTop (mkF m 12 #[.val (.ref a0), .val (.int i1)] [(.int i1), (.ref va)])) _
    refine st33 _ ?_
    show Steps p.tables e below (T33.setTop (mkF m 15 #[.val (.ref a0), .val (.int i1)] [(.int (xx &&& (255 : Int32)))])) _
    exact retOut X33 hx Bd.returns (own_narc xx) (Or.inl ⟨rfl, by simp, _, rfl⟩) (hb hby d34_15) hrL
  · show Q_cha _ _ _ _ _ _ _ _ _ _ _ _ _  T33.heap _
    rw [Kq33]
    exact ⟨rfl, N33, rfl⟩
theorem d39_0 : decode method_3_code 0 = .ok (.iload_n 3, 1) := by decide +kernel
theorem d39_1 : decode method_3_code 1 = .ok (.istore 4, 2) := by decide +kernel
theorem d39_3 : decode method_3_code 3 = .ok (.iload 4, 2) := by decide +kernel
theorem d39_5 : decode method_3_code 5 = .ok (.aload_n 0, 1) := by decide +kernel
theorem d39_6 : decode method_3_code 6 = .ok (.invokevirtual 16, 3) := by decide +kernel
theorem d39_9 : decode method_3_code 9 = .ok (.if_icmp .ge 10, 3) := by decide +kernel
theorem d39_12 : decode method_3_code 12 = .ok (.aload_n 0, 1) := by decide +kernel
theorem d39_13 : decode method_3_code 13 = .ok (.iload 4, 2) := by decide +kernel
theorem d39_15 : decode method_3_code 15 = .ok (.invokevirtual 20, 3) := by decide +kernel
theorem pd_27 : parseMethodDescriptor "(I)C" = some ⟨[.int], some .char⟩ := by decide +kernel
theorem d39_18 : decode method_3_code 18 = .ok (.ireturn, 1) := by decide +kernel
theorem d39_19 : decode method_3_code 19 = .ok (.iload 4, 2) := by decide +kernel
theorem d39_21 : decode method_3_code 21 = .ok (.aload_n 0, 1) := by decide +kernel
theorem d39_22 : decode method_3_code 22 = .ok (.invokevirtual 16, 3) := by decide +kernel
theorem d39_25 : decode method_3_code 25 = .ok (.isub, 1) := by decide +kernel
theorem d39_26 : decode method_3_code 26 = .ok (.istore 4, 2) := by decide +kernel
theorem d39_28 : decode method_3_code 28 = .ok (.iload 4, 2) := by decide +kernel
theorem d39_30 : decode method_3_code 30 = .ok (.ifCond .ne 6, 3) := by decide +kernel
theorem d39_33 : decode method_3_code 33 = .ok (.bipush 47, 2) := by decide +kernel
theorem d39_35 : decode method_3_code 35 = .ok (.ireturn, 1) := by decide +kernel
theorem d39_36 : decode method_3_code 36 = .ok (.iinc 4 (-1), 3) := by decide +kernel
theorem d39_39 : decode method_3_code 39 = .ok (.iload 4, 2) := by decide +kernel
theorem d39_41 : decode method_3_code 41 = .ok (.aload_n 1, 1) := by decide +kernel
theorem d39_42 : decode method_3_code 42 = .ok (.invokevirtual 16, 3) := by decide +kernel
theorem d39_45 : decode method_3_code 45 = .ok (.if_icmp .ge 10, 3) := by decide +kernel
theorem d39_48 : decode method_3_code 48 = .ok (.aload_n 1, 1) := by decide +kernel
theorem d39_49 : decode method_3_code 49 = .ok (.iload 4, 2) := by decide +kernel
theorem d39_51 : decode method_3_code 51 = .ok (.invokevirtual 20, 3) := by decide +kernel
theorem d39_54 : decode method_3_code 54 = .ok (.ireturn, 1) := by decide +kernel
theorem d39_55 : decode method_3_code 55 = .ok (.iload 4, 2) := by decide +kernel
theorem d39_57 : decode method_3_code 57 = .ok (.aload_n 1, 1) := by decide +kernel
theorem d39_58 : decode method_3_code 58 = .ok (.invokevirtual 16, 3) := by decide +kernel
theorem d39_61 : decode method_3_code 61 = .ok (.isub, 1) := by decide +kernel
theorem d39_62 : decode method_3_code 62 = .ok (.istore 4, 2) := by decide +kernel
theorem d39_64 : decode method_3_code 64 = .ok (.iload 4, 2) := by decide +kernel
theorem d39_66 : decode method_3_code 66 = .ok (.ifCond .ne 6, 3) := by decide +kernel
theorem d39_69 : decode method_3_code 69 = .ok (.bipush 47, 2) := by decide +kernel
theorem d39_71 : decode method_3_code 71 = .ok (.ireturn, 1) := by decide +kernel
theorem d39_72 : decode method_3_code 72 = .ok (.iinc 4 (-1), 3) := by decide +kernel
theorem d39_75 : decode method_3_code 75 = .ok (.iload 4, 2) := by decide +kernel
theorem d39_77 : decode method_3_code 77 = .ok (.aload_n 2, 1) := by decide +kernel
theorem d39_78 : decode method_3_code 78 = .ok (.invokevirtual 16, 3) := by decide +kernel
theorem d39_81 : decode method_3_code 81 = .ok (.if_icmp .ge 10, 3) := by decide +kernel
theorem d39_84 : decode method_3_code 84 = .ok (.aload_n 2, 1) := by decide +kernel
theorem d39_85 : decode method_3_code 85 = .ok (.iload 4, 2) := by decide +kernel
theorem d39_87 : decode method_3_code 87 = .ok (.invokevirtual 20, 3) := by decide +kernel
theorem d39_90 : decode method_3_code 90 = .ok (.ireturn, 1) := by decide +kernel
theorem ef_att (m : MethodId) (ga : Addr) (gb : Addr) (gc : Addr) (i3 : Int32) : entryFrame m #[(.ref ga), (.ref gb), (.ref gc), (.int i3)] 5 = mkF m 0 #[.val (.ref ga), .val (.ref gb), .val (.ref gc), .val (.int i3), .unset] [] := by first | (simp [entryFrame, mkF, argsToLocals, Value.category]; done) | rfl
def Q_att (Z : State) (ga : Addr) (gb : Addr) (gc : Addr) (i3 : Int32) (va : Addr) (ka : ClassId) (zA : Int32) (vA : List Value) (vb : Addr) (kb : ClassId) (zB : Int32) (vB : List Value) (vc : Addr) (kc : ClassId) (zC : Int32) (vC : List Value) (xA : List Int32) (xB : List Int32) (xC : List Int32) (fm : Value) (cs : Int32) (h0 : Heap) (n0 : Nat) (v : Option Value) (h : Heap) (L : List Loc) : Prop := ∃ r : Int32, v = some (.int r) ∧ Fr n0 L ∧ h = h0 ∧ r = ((Tot xA xB xC).getD i3.toNatClampNeg 0 &&& (255 : Int32))
set_option maxRecDepth 65536 in
set_option maxHeartbeats 40000000 in
theorem att (l : Launch) (Z : State) (av0 : Array Value) (hw : ∀ d ∈ tables_1, d.before av0 Z = true) (ws : List Jvm.Cond) (ga : Addr) (gb : Addr) (gc : Addr) (i3 : Int32) (va : Addr) (ka : ClassId) (zA : Int32) (vA : List Value) (vb : Addr) (kb : ClassId) (zB : Int32) (vB : List Value) (vc : Addr) (kc : ClassId) (zC : Int32) (vC : List Value) (xA : List Int32) (xB : List Int32) (xC : List Int32) (fm : Value) (cs : Int32) (h0 : Heap) (n0 : Nat) (Z0 : n0 ≤ h0.size) (p0_O : Old Z n0 h0) (p1_S : Sta Z Z.heap "java/lang/String" "COMPACT_STRINGS" "Z" (.int cs)) (hcs : ¬ (cs = (0 : Int32))) (p3_S : Sta Z Z.heap "jdk/internal/util/Preconditions" "SIOOBE_FORMATTER" "Ljava/util/function/BiFunction;" fm) (p4_r : fm.isRef = true) (p5_E : Exa Z h0 ga "java/lang/String") (p6_F : Fld Z h0 ga "java/lang/String" "coder" "B" (.int 0)) (p7_F : Fld Z h0 ga "java/lang/String" "value" "[B" (.ref va)) (p8_A : Arv Z h0 va ka .byte zA vA (.int 0)) (p9_E : Exa Z h0 gb "java/lang/String") (p10_F : Fld Z h0 gb "java/lang/String" "coder" "B" (.int 0)) (p11_F : Fld Z h0 gb "java/lang/String" "value" "[B" (.ref vb)) (p12_A : Arv Z h0 vb kb .byte zB vB (.int 0)) (p13_E : Exa Z h0 gc "java/lang/String") (p14_F : Fld Z h0 gc "java/lang/String" "coder" "B" (.int 0)) (p15_F : Fld Z h0 gc "java/lang/String" "value" "[B" (.ref vc)) (p16_A : Arv Z h0 vc kc .byte zC vC (.int 0)) (hA : Ln zA vA 2) (hB : Ln zB vB 2) (hC : Ln zC vC 2) (hxA : vA = xA.map Value.int) (hxB : vB = xB.map Value.int) (hxC : vC = xC.map Value.int) (h0_ : ¬ (i3 < (0 : Int32))) (ht : i3.toInt < (Tot xA xB xC).length) :
    MetFree l (⟨"com/example/ledgerline/ledgerline/KeyToStringPinLaw", "at", "(Ljava/lang/String;Ljava/lang/String;Ljava/lang/String;I)C"⟩ : MethodName) (head1 (Jvm.Cond.code (⟨"com/example/ledgerline/ledgerline/KeyToStringPinLaw", "at", "(Ljava/lang/String;Ljava/lang/String;Ljava/lang/String;I)C"⟩ : MethodName) method_3_code 5 (some .char) :: ws) ({ frames := 4, cells := 0, slots := 0, locals := 53 } : Room)) (fun a U => a = #[(.ref ga), (.ref gb), (.ref gc), (.int i3)] ∧ Z.Warmed39 U.vm ∧ U.heap = h0) (fun _ _ _ _ _ => True) (fun _ U o U' => ∃ v L, o = .returned v ∧ Q_att Z ga gb gc i3 va ka zA vA vb kb zB vB vc kc zC vC xA xB xC fm cs h0 n0 v U'.heap L ∧ FrameEnd U o U' L ({ frames := 4, cells := 0, slots := 0, locals := 53 } : Room).cells ({ frames := 4, cells := 0, slots := 0, locals := 53 } : Room).slots) := by
  refine MetFree.of_bodySF (plainFor_of_name pn_com_example_ledgerline_ledgerline_KeyToStringPinLaw) hisR ?_
  intro p e s m args below meth c s₁ Bd hml0 hP hK
  obtain ⟨rfl, hZ, hh⟩ := hP
  have hx := Bd.exec
  have hby := Bd.bytes
  have hml : c.maxLocals = 5 := hml0
  have hown : s.vm.findClass "com/example/ledgerline/ledgerline/KeyToStringPinLaw" = some m.cls := findClass_of_methodNamed Bd.named
  have hnm := (name_of_methodNamed Bd.named Bd.method).1
  have X0 : Stand p l e ({ frames := 4, cells := 0, slots := 0, locals := 53 } : Room) s m #[(.ref ga), (.ref gb), (.ref gc), (.int i3)] below meth c s₁ [] 0 0 := Stand.of_body Bd
  have e0 : s₁.heap = h0 := by rw [← hh, Bd.state]; rfl
  have N0 := Fr.nil n0
  have pre0 : ∀ tz_, Steps p.tables e below (s₁.setTop (mkF m 0 #[.val (.ref ga), .val (.ref gb), .val (.ref gc), .val (.int i3), .unset] [])) tz_ → Steps p.tables e below (s₁.setTop (entryFrame m #[(.ref ga), (.ref gb), (.ref gc), (.int i3)] 5)) tz_ := fun tz_ kz_ => castTop (ef_att m ga gb gc i3) kz_
  -- pc 6: String.length
  obtain ⟨cq31, kq31, q31a, q31b, q31c⟩ := isOf hZ e0 p5_E
  obtain ⟨_, _, ⟨T31, L31, k31, n31⟩, -, X31, ⟨Lc31, hQ31, l31, y31, z31⟩, st31⟩ := X0.virtualBack hx (y := (⟨"java/lang/String", "length", "()I"⟩ : MethodName)) (z := (⟨"java/lang/String", "length", "()I"⟩ : MethodName)) hown (mvT hZ (hw _ (mg (i := 175) rfl))) (mvT hZ (hw _ (mg (i := 93) rfl))) (notFace_of_selects (args := #[]) (mvT hZ (hw _ (mg (i := 95) rfl)))) (mvT hZ (hw _ (mg (i := 95) rfl))) (mvT hZ (hw _ (mg (i := 94) rfl))) (by decide) (backOf (W := 1) (slen l Z av0 hw [] ga va ka zA vA cs h0 n0 (own_le p0_O) p0_O p1_S (hcs : ¬ (cs = (0 : Int32))) p5_E p6_F p7_F p8_A) hZ (hw _ (mg (i := 96) rfl)) (hw _ (mg (i := 6) rfl)) (by decide) (by decide)) q31a q31c (g := (mkF m 6 #[.val (.ref ga), .val (.ref gb), .val (.ref gc), .val (.int i3), .val (.int i3)] [(.ref ga), (.int i3)])) rfl (by rw [hml]; rfl) (Steps.refl _) (argsL := []) (rest := [(.int i3)]) (lenOf pd_13 rfl) rfl (by show 2 * 0 + _ ≤ _; exact Nat.le_of_eq rfl) (hb hby d39_6) (fun vmx hWx => ⟨rfl, e0, (by decide : 0 + 0 ≤ _), (by decide : 0 + 0 ≤ _)⟩)
  dsimp only [Pt.U, Pt.locs, Pt.cells, Pt.slots] at X31 l31 y31 z31 st31 hQ31
  subst l31 y31 z31
  obtain ⟨rv31, Nq31, Kq31⟩ := hQ31
  subst rv31
  have N31 := Fr.app N0 Nq31
  have pre32 : ∀ tz_, Steps p.tables e below (T31.setTop (mkF m 9 #[.val (.ref ga), .val (.ref gb), .val (.ref gc), .val (.int i3), .val (.int i3)] [(.int zA), (.int i3)])) tz_ → Steps p.tables e below (s₁.setTop (entryFrame m #[(.ref ga), (.ref gb), (.ref gc), (.int i3)] 5)) tz_ := fun tz_ kk => pre0 tz_ (by
    show Steps p.tables e below (s₁.setTop (mkF m 0 #[.val (.ref ga), .val (.ref gb), .val (.ref gc), .val (.int i3), .unset] [])) _
    refine XS.iloadN X0.here hx rfl (hb hby d39_0) rfl ?_
    refine XS.istore X0.here hx rfl (hb hby d39_1) rfl (l' := #[.val (.ref ga), .val (.ref gb), .val (.ref gc), .val (.int i3), .val (.int i3)]) rfl ?_
    refine XS.iload X0.here hx rfl (hb hby d39_3) rfl ?_
    show Steps p.tables e below (s₁.setTop (mkF m 5 #[.val (.ref ga), .val (.ref gb), .val (.ref gc), .val (.int i3), .val (.int i3)] [(.int i3)])) _
    refine XS.aloadN X0.here hx rfl (hb hby d39_5) rfl rfl ?_
    show Steps p.tables e below (s₁.setTop (mkF m 6 #[.val (.ref ga), .val (.ref gb), .val (.ref gc), .val (.int i3), .val (.int i3)] [(.ref ga), (.int i3)])) _
    refine st31.trans ?_
    exact kk)
  by_cases hc33 : i3 < zA
  · skip
    -- pc 15: String.charAt
    obtain ⟨cq34, kq34, q34a, q34b, q34c⟩ := isOf hZ Kq31 p5_E
    obtain ⟨_, _, ⟨T34, L34, k34, n34⟩, -, X34, ⟨Lc34, hQ34, l34, y34, z34⟩, st34⟩ := X31.virtualBack hx (y := (⟨"java/lang/String", "charAt", "(I)C"⟩ : MethodName)) (z := (⟨"java/lang/String", "charAt", "(I)C"⟩ : MethodName)) hown (mvT hZ (hw _ (mg (i := 179) rfl))) (mvT hZ (hw _ (mg (i := 180) rfl))) (notFace_of_selects (args := #[]) (mvT hZ (hw _ (mg (i := 182) rfl)))) (mvT hZ (hw _ (mg (i := 182) rfl))) (mvT hZ (hw _ (mg (i := 181) rfl))) (by decide) (backOf (W := 0) (cha l Z av0 hw [] ga i3 va ka zA vA (xA.getD i3.toNatClampNeg 0) fm cs h0 n0 (own_le p0_O) p0_O p1_S (hcs : ¬ (cs = (0 : Int32))) p3_S p4_r p5_E p6_F p7_F p8_A (h0_ : ¬ (i3 < (0 : Int32))) (hc33 : i3 < zA) (own_gd hxA _ : vA.getD i3.toNatClampNeg (.int 0) = .int (xA.getD i3.toNatClampNeg 0))) hZ (hw _ (mg (i := 183) rfl)) (hw _ (mg (i := 6) rfl)) (by decide) (by decide)) q34a q34c (g := (mkF m 15 #[.val (.ref ga), .val (.ref gb), .val (.ref gc), .val (.int i3), .val (.int i3)] [(.int i3), (.ref ga)])) rfl (by rw [hml]; rfl) (Steps.refl _) (argsL := [(.int i3)]) (rest := []) (lenOf pd_27 rfl) rfl (by show 2 * 0 + _ ≤ _; exact Nat.le_of_eq rfl) (hb hby d39_15) (fun vmx hWx => ⟨rfl, Kq31, (by decide : 0 + 0 ≤ _), (by decide : 0 + 0 ≤ _)⟩)
    dsimp only [Pt.U, Pt.locs, Pt.cells, Pt.slots] at X34 l34 y34 z34 st34 hQ34
    subst l34 y34 z34
    obtain ⟨rv34, Nq34, Kq34⟩ := hQ34
    subst rv34
    have N34 := Fr.app N31 Nq34
    obtain ⟨fs, hrL, hrun, hended, hW, hsame⟩ := X34.leave (v := some (.int ((xA.getD i3.toNatClampNeg 0) &&& (255 : Int32)))) (fun h => by rw [Bd.returns] at h; cases h)
    refine ⟨_, _, pre32 _ ?_, hrun, hended, _, _, rfl, ?_, ⟨_, rfl⟩, hW, hsame.mono (by decide) (by decide)⟩
    · show Steps p.tables e below (T31.setTop (mkF m 9 #[.val (.ref ga), .val (.ref gb), .val (.ref gc), .val (.int i3), .val (.int i3)] [(.int zA), (.int i3)])) _
      refine XS.icmpNo X31.here hx rfl (hb hby d39_9) rfl (tlt hc33).2.1 ?_
      refine XS.aloadN X31.here hx rfl (hb hby d39_12) rfl rfl ?_
      show Steps p.tables e below (T31.setTop (mkF m 13 #[.val (.ref ga), .val (.ref gb), .val (.ref gc), .val (.int i3), .val (.int i3)] [(.ref ga)])) _
      refine XS.iload X31.here hx rfl (hb hby d39_13) rfl ?_
      show Steps p.tables e below (T31.setTop (mkF m 15 #[.val (.ref ga), .val (.ref gb), .val (.ref gc), .val (.int i3), .val (.int i3)] [(.int i3), (.ref ga)])) _
      refine st34.trans ?_
      show Steps p.tables e below (T34.setTop (mkF m 18 #[.val (.ref ga), .val (.ref gb), .val (.ref gc), .val (.int i3), .val (.int i3)] [(.int ((xA.getD i3.toNatClampNeg 0) &&& (255 : Int32)))])) _
      exact retOut X34 hx Bd.returns (own_narc _) (Or.inl ⟨rfl, by simp, _, rfl⟩) (hb hby d39_18) hrL
    · show Q_att _ _ _ _ _ _ _ _ _ _ _ _ _ _ _ _ _ _ _ _ _ _ _ _ _  T34.heap _
      rw [Kq34]
      exact ⟨((xA.getD i3.toNatClampNeg 0) &&& (255 : Int32)), rfl, N34, rfl, own_a1 h0_ (own_len2 hA hxA) hc33⟩
  · skip
    -- pc 22: String.length
    obtain ⟨cq35, kq35, q35a, q35b, q35c⟩ := isOf hZ Kq31 p5_E
    obtain ⟨_, _, ⟨T35, L35, k35, n35⟩, -, X35, ⟨Lc35, hQ35, l35, y35, z35⟩, st35⟩ := X31.virtualBack hx (y := (⟨"java/lang/String", "length", "()I"⟩ : MethodName)) (z := (⟨"java/lang/String", "length", "()I"⟩ : MethodName)) hown (mvT hZ (hw _ (mg (i := 175) rfl))) (mvT hZ (hw _ (mg (i := 93) rfl))) (notFace_of_selects (args := #[]) (mvT hZ (hw _ (mg (i := 95) rfl)))) (mvT hZ (hw _ (mg (i := 95) rfl))) (mvT hZ (hw _ (mg (i := 94) rfl))) (by decide) (backOf (W := 1) (slen l Z av0 hw [] ga va ka zA vA cs h0 n0 (own_le p0_O) p0_O p1_S (hcs : ¬ (cs = (0 : Int32))) p5_E p6_F p7_F p8_A) hZ (hw _ (mg (i := 96) rfl)) (hw _ (mg (i := 6) rfl)) (by decide) (by decide)) q35a q35c (g := (mkF m 22 #[.val (.ref ga), .val (.ref gb), .val (.ref gc), .val (.int i3), .val (.int i3)] [(.ref ga), (.int i3)])) rfl (by rw [hml]; rfl) (Steps.refl _) (argsL := []) (rest := [(.int i3)]) (lenOf pd_13 rfl) rfl (by show 2 * 0 + _ ≤ _; exact Nat.le_of_eq rfl) (hb hby d39_22) (fun vmx hWx => ⟨rfl, Kq31, (by decide : 0 + 0 ≤ _), (by decide : 0 + 0 ≤ _)⟩)
    dsimp only [Pt.U, Pt.locs, Pt.cells, Pt.slots] at X35 l35 y35 z35 st35 hQ35
    subst l35 y35 z35
    obtain ⟨rv35, Nq35, Kq35⟩ := hQ35
    subst rv35
    have N35 := Fr.app N31 Nq35
    have pre36 : ∀ tz_, Steps p.tables e below (T35.setTop (mkF m 30 #[.val (.ref ga), .val (.ref gb), .val (.ref gc), .val (.int i3), .val (.int (i3 - zA))] [(.int (i3 - zA))])) tz_ → Steps p.tables e below (s₁.setTop (entryFrame m #[(.ref ga), (.ref gb), (.ref gc), (.int i3)] 5)) tz_ := fun tz_ kk => pre32 tz_ (by
      show Steps p.tables e below (T31.setTop (mkF m 9 #[.val (.ref ga), .val (.ref gb), .val (.ref gc), .val (.int i3), .val (.int i3)] [(.int zA), (.int i3)])) _
      refine XS.icmpYes X31.here hx rfl (pc0 := 9) (pc' := 19) rfl (hb hby d39_9) rfl (flt hc33).2.1 (by decide) (by decide) ?_
      refine XS.iload X31.here hx rfl (hb hby d39_19) rfl ?_
      show Steps p.tables e below (T31.setTop (mkF m 21 #[.val (.ref ga), .val (.ref gb), .val (.ref gc), .val (.int i3), .val (.int i3)] [(.int i3)])) _
      refine XS.aloadN X31.here hx rfl (hb hby d39_21) rfl rfl ?_
      show Steps p.tables e below (T31.setTop (mkF m 22 #[.val (.ref ga), .val (.ref gb), .val (.ref gc), .val (.int i3), .val (.int i3)] [(.ref ga), (.int i3)])) _
      refine st35.trans ?_
      show Steps p.tables e below (T35.setTop (mkF m 25 #[.val (.ref ga), .val (.ref gb), .val (.ref gc), .val (.int i3), .val (.int i3)] [(.int zA), (.int i3)])) _
      refine XS.isub X35.here hx rfl (hb hby d39_25) rfl ?_
      refine XS.istore X35.here hx rfl (hb hby d39_26) rfl (l' := #[.val (.ref ga), .val (.ref gb), .val (.ref gc), .val (.int i3), .val (.int (i3 - zA))]) rfl ?_
      show Steps p.tables e below (T35.setTop (mkF m 28 #[.val (.ref ga), .val (.ref gb), .val (.ref gc), .val (.int i3), .val (.int (i3 - zA))] [])) _
      refine XS.iload X35.here hx rfl (hb hby d39_28) rfl ?_
      exact kk)
    by_cases hc37 : (i3 - zA) = (0 : Int32)
    · skip
      obtain ⟨fs, hrL, hrun, hended, hW, hsame⟩ := X35.leave (v := some (.int 47)) (fun h => by rw [Bd.returns] at h; cases h)
      refine ⟨_, _, pre36 _ ?_, hrun, hended, _, _, rfl, ?_, ⟨_, rfl⟩, hW, hsame.mono (by decide) (by decide)⟩
      · show Steps p.tables e below (T35.setTop (mkF m 30 #[.val (.ref ga), .val (.ref gb), .val (.ref gc), .val (.int i3), .val (.int (i3 - zA))] [(.int (i3 - zA))])) _
        refine XS.ifNo X35.here hx rfl (hb hby d39_30) rfl ((if0 _ _).trans (teq hc37).2) ?_
        refine XS.bipush X35.here hx rfl (hb hby d39_33) ?_
        show Steps p.tables e below (T35.setTop (mkF m 35 #[.val (.ref ga), .val (.ref gb), .val (.ref gc), .val (.int i3), .val (.int (i3 - zA))] [(.int 47)])) _
        exact retOut X35 hx Bd.returns own_nar47 (Or.inl ⟨rfl, by simp, _, rfl⟩) (hb hby d39_35) hrL
      · show Q_att _ _ _ _ _ _ _ _ _ _ _ _ _ _ _ _ _ _ _ _ _ _ _ _ _  T35.heap _
        rw [Kq35]
        exact ⟨(47 : Int32), rfl, N35, rfl, own_a2 h0_ hA hxA hc33 hc37⟩
    · skip
      -- pc 42: String.length
      obtain ⟨cq38, kq38, q38a, q38b, q38c⟩ := isOf hZ Kq35 p9_E
      obtain ⟨_, _, ⟨T38, L38, k38, n38⟩, -, X38, ⟨Lc38, hQ38, l38, y38, z38⟩, st38⟩ := X35.virtualBack hx (y := (⟨"java/lang/String", "length", "()I"⟩ : MethodName)) (z := (⟨"java/lang/String", "length", "()I"⟩ : MethodName)) hown (mvT hZ (hw _ (mg (i := 175) rfl))) (mvT hZ (hw _ (mg (i := 93) rfl))) (notFace_of_selects (args := #[]) (mvT hZ (hw _ (mg (i := 95) rfl)))) (mvT hZ (hw _ (mg (i := 95) rfl))) (mvT hZ (hw _ (mg (i := 94) rfl))) (by decide) (backOf (W := 1) (slen l Z av0 hw [] gb vb kb zB vB cs h0 n0 (own_le p0_O) p0_O p1_S (hcs : ¬ (cs = (0 : Int32))) p9_E p10_F p11_F p12_A) hZ (hw _ (mg (i := 96) rfl)) (hw _ (mg (i := 6) rfl)) (by decide) (by decide)) q38a q38c (g := (mkF m 42 #[.val (.ref ga), .val (.ref gb), .val (.ref gc), .val (.int i3), .val (.int ((i3 - zA) + (-1 : Int32)))] [(.ref gb), (.int ((i3 - zA) + (-1 : Int32)))])) rfl (by rw [hml]; rfl) (Steps.refl _) (argsL := []) (rest := [(.int ((i3 - zA) + (-1 : Int32)))]) (lenOf pd_13 rfl) rfl (by show 2 * 0 + _ ≤ _; exact Nat.le_of_eq rfl) (hb hby d39_42) (fun vmx hWx => ⟨rfl, Kq35, (by decide : 0 + 0 ≤ _), (by decide : 0 + 0 ≤ _)⟩)
      dsimp only [Pt.U, Pt.locs, Pt.cells, Pt.slots] at X38 l38 y38 z38 st38 hQ38
      subst l38 y38 z38
      obtain ⟨rv38, Nq38, Kq38⟩ := hQ38
      subst rv38
      have N38 := Fr.app N35 Nq38
      have pre39 : ∀ tz_, Steps p.tables e below (T38.setTop (mkF m 45 #[.val (.ref ga), .val (.ref gb), .val (.ref gc), .val (.int i3), .val (.int ((i3 - zA) + (-1 : Int32)))] [(.int zB), (.int ((i3 - zA) + (-1 : Int32)))])) tz_ → Steps p.tables e below (s₁.setTop (entryFrame m #[(.ref ga), (.ref gb), (.ref gc), (.int i3)] 5)) tz_ := fun tz_ kk => pre36 tz_ (by
        show Steps p.tables e below (T35.setTop (mkF m 30 #[.val (.ref ga), .val (.ref gb), .val (.ref gc), .val (.int i3), .val (.int (i3 - zA))] [(.int (i3 - zA))])) _
        refine XS.ifYes X35.here hx rfl (pc0 := 30) (pc' := 36) rfl (hb hby d39_30) rfl ((if0 _ _).trans (feq hc37).2) (by decide) (by decide) ?_
        show Steps p.tables e below (T35.setTop (mkF m 36 #[.val (.ref ga), .val (.ref gb), .val (.ref gc), .val (.int i3), .val (.int (i3 - zA))] [])) _
        refine XS.iinc X35.here hx rfl (hb hby d39_36) rfl (l' := #[.val (.ref ga), .val (.ref gb), .val (.ref gc), .val (.int i3), .val (.int ((i3 - zA) + (-1 : Int32)))]) (by rw [own_im1] <;> rfl) ?_
        refine XS.iload X35.here hx rfl (hb hby d39_39) rfl ?_
        refine XS.aloadN X35.here hx rfl (hb hby d39_41) rfl rfl ?_
        show Steps p.tables e below (T35.setTop (mkF m 42 #[.val (.ref ga), .val (.ref gb), .val (.ref gc), .val (.int i3), .val (.int ((i3 - zA) + (-1 : Int32)))] [(.ref gb), (.int ((i3 - zA) + (-1 : Int32)))])) _
        refine st38.trans ?_
        exact kk)
      by_cases hc40 : ((i3 - zA) + (-1 : Int32)) < zB
      · skip
        -- pc 51: String.charAt
        obtain ⟨cq41, kq41, q41a, q41b, q41c⟩ := isOf hZ Kq38 p9_E
        obtain ⟨_, _, ⟨T41, L41, k41, n41⟩, -, X41, ⟨Lc41, hQ41, l41, y41, z41⟩, st41⟩ := X38.virtualBack hx (y := (⟨"java/lang/String", "charAt", "(I)C"⟩ : MethodName)) (z := (⟨"java/lang/String", "charAt", "(I)C"⟩ : MethodName)) hown (mvT hZ (hw _ (mg (i := 179) rfl))) (mvT hZ (hw _ (mg (i := 180) rfl))) (notFace_of_selects (args := #[]) (mvT hZ (hw _ (mg (i := 182) rfl)))) (mvT hZ (hw _ (mg (i := 182) rfl))) (mvT hZ (hw _ (mg (i := 181) rfl))) (by decide) (backOf (W := 0) (cha l Z av0 hw [] gb ((i3 - zA) + (-1 : Int32)) vb kb zB vB (xB.getD ((i3 - zA) + (-1 : Int32)).toNatClampNeg 0) fm cs h0 n0 (own_le p0_O) p0_O p1_S (hcs : ¬ (cs = (0 : Int32))) p3_S p4_r p9_E p10_F p11_F p12_A ((own_dec (own_sub h0_ hc33 hA.1).2 hc37).2 : ¬ (((i3 - zA) + (-1 : Int32)) < (0 : Int32))) (hc40 : ((i3 - zA) + (-1 : Int32)) < zB) (own_gd hxB _ : vB.getD ((i3 - zA) + (-1 : Int32)).toNatClampNeg (.int 0) = .int (xB.getD ((i3 - zA) + (-1 : Int32)).toNatClampNeg 0))) hZ (hw _ (mg (i := 183) rfl)) (hw _ (mg (i := 6) rfl)) (by decide) (by decide)) q41a q41c (g := (mkF m 51 #[.val (.ref ga), .val (.ref gb), .val (.ref gc), .val (.int i3), .val (.int ((i3 - zA) + (-1 : Int32)))] [(.int ((i3 - zA) + (-1 : Int32))), (.ref gb)])) rfl (by rw [hml]; rfl) (Steps.refl _) (argsL := [(.int ((i3 - zA) + (-1 : Int32)))]) (rest := []) (lenOf pd_27 rfl) rfl (by show 2 * 0 + _ ≤ _; exact Nat.le_of_eq rfl) (hb hby d39_51) (fun vmx hWx => ⟨rfl, Kq38, (by decide : 0 + 0 ≤ _), (by decide : 0 + 0 ≤ _)⟩)
        dsimp only [Pt.U, Pt.locs, Pt.cells, Pt.slots] at X41 l41 y41 z41 st41 hQ41
        subst l41 y41 z41
        obtain ⟨rv41, Nq41, Kq41⟩ := hQ41
        subst rv41
        have N41 := Fr.app N38 Nq41
        obtain ⟨fs, hrL, hrun, hended, hW, hsame⟩ := X41.leave (v := some (.int ((xB.getD ((i3 - zA) + (-1 : Int32)).toNatClampNeg 0) &&& (255 : Int32)))) (fun h => by rw [Bd.returns] at h; cases h)
        refine ⟨_, _, pre39 _ ?_, hrun, hended, _, _, rfl, ?_, ⟨_, rfl⟩, hW, hsame.mono (by decide) (by decide)⟩
        · show Steps p.tables e below (T38.setTop (mkF m 45 #[.val (.ref ga), .val (.ref gb), .val (.ref gc), .val (.int i3), .val (.int ((i3 - zA) + (-1 : Int32)))] [(.int zB), (.int ((i3 - zA) + (-1 : Int32)))])) _
          refine XS.icmpNo X38.here hx rfl (hb hby d39_45) rfl (tlt hc40).2.1 ?_
          refine XS.aloadN X38.here hx rfl (hb hby d39_48) rfl rfl ?_
          refine XS.iload X38.here hx rfl (hb hby d39_49) rfl ?_
          show Steps p.tables e below (T38.setTop (mkF m 51 #[.val (.ref ga), .val (.ref gb), .val (.ref gc), .val (.int i3), .val (.int ((i3 - zA) + (-1 : Int32)))] [(.int ((i3 - zA) + (-1 : Int32))), (.ref gb)])) _
          refine st41.trans ?_
          show Steps p.tables e below (T41.setTop (mkF m 54 #[.val (.ref ga), .val (.ref gb), .val (.ref gc), .val (.int i3), .val (.int ((i3 - zA) + (-1 : Int32)))] [(.int ((xB.getD ((i3 - zA) + (-1 : Int32)).toNatClampNeg 0) &&& (255 : Int32)))])) _
          exact retOut X41 hx Bd.returns (own_narc _) (Or.inl ⟨rfl, by simp, _, rfl⟩) (hb hby d39_54) hrL
        · show Q_att _ _ _ _ _ _ _ _ _ _ _ _ _ _ _ _ _ _ _ _ _ _ _ _ _  T41.heap _
          rw [Kq41]
          exact ⟨((xB.getD ((i3 - zA) + (-1 : Int32)).toNatClampNeg 0) &&& (255 : Int32)), rfl, N41, rfl, own_a3 h0_ hA hxA hB hxB hc33 hc37 hc40⟩
      · skip
        -- pc 58: String.length
        obtain ⟨cq42, kq42, q42a, q42b, q42c⟩ := isOf hZ Kq38 p9_E
        obtain ⟨_, _, ⟨T42, L42, k42, n42⟩, -, X42, ⟨Lc42, hQ42, l42, y42, z42⟩, st42⟩ := X38.virtualBack hx (y := (⟨"java/lang/String", "length", "()I"⟩ : MethodName)) (z := (⟨"java/lang/String", "length", "()I"⟩ : MethodName)) hown (mvT hZ (hw _ (mg (i := 175) rfl))) (mvT hZ (hw _ (mg (i := 93) rfl))) (notFace_of_selects (args := #[]) (mvT hZ (hw _ (mg (i := 95) rfl)))) (mvT hZ (hw _ (mg (i := 95) rfl))) (mvT hZ (hw _ (mg (i := 94) rfl))) (by decide) (backOf (W := 1) (slen l Z av0 hw [] gb vb kb zB vB cs h0 n0 (own_le p0_O) p0_O p1_S (hcs : ¬ (cs = (0 : Int32))) p9_E p10_F p11_F p12_A) hZ (hw _ (mg (i := 96) rfl)) (hw _ (mg (i := 6) rfl)) (by decide) (by decide)) q42a q42c (g := (mkF m 58 #[.val (.ref ga), .val (.ref gb), .val (.ref gc), .val (.int i3), .val (.int ((i3 - zA) + (-1 : Int32)))] [(.ref gb), (.int ((i3 - zA) + (-1 : Int32)))])) rfl (by rw [hml]; rfl) (Steps.refl _) (argsL := []) (rest := [(.int ((i3 - zA) + (-1 : Int32)))]) (lenOf pd_13 rfl) rfl (by show 2 * 0 + _ ≤ _; exact Nat.le_of_eq rfl) (hb hby d39_58) (fun vmx hWx => ⟨rfl, Kq38, (by decide : 0 + 0 ≤ _), (by decide : 0 + 0 ≤ _)⟩)
        dsimp only [Pt.U, Pt.locs, Pt.cells, Pt.slots] at X42 l42 y42 z42 st42 hQ42
        subst l42 y42 z42
        obtain ⟨rv42, Nq42, Kq42⟩ := hQ42
        subst rv42
        have N42 := Fr.app N38 Nq42
        have pre43 : ∀ tz_, Steps p.tables e below (T42.setTop (mkF m 66 #[.val (.ref ga), .val (.ref gb), .val (.ref gc), .val (.int i3), .val (.int (((i3 - zA) + (-1 : Int32)) - zB))] [(.int (((i3 - zA) + (-1 : Int32)) - zB))])) tz_ → Steps p.tables e below (s₁.setTop (entryFrame m #[(.ref ga), (.ref gb), (.ref gc), (.int i3)] 5)) tz_ := fun tz_ kk => pre39 tz_ (by
          show Steps p.tables e below (T38.setTop (mkF m 45 #[.val (.ref ga), .val (.ref gb), .val (.ref gc), .val (.int i3), .val (.int ((i3 - zA) + (-1 : Int32)))] [(.int zB), (.int ((i3 - zA) + (-1 : Int32)))])) _
          refine XS.icmpYes X38.here hx rfl (pc0 := 45) (pc' := 55) rfl (hb hby d39_45) rfl (flt hc40).2.1 (by decide) (by decide) ?_
          refine XS.iload X38.here hx rfl (hb hby d39_55) rfl ?_
          refine XS.aloadN X38.here hx rfl (hb hby d39_57) rfl rfl ?_
          show Steps p.tables e below (T38.setTop (mkF m 58 #[.val (.ref ga), .val (.ref gb), .val (.ref gc), .val (.int i3), .val (.int ((i3 - zA) + (-1 : Int32)))] [(.ref gb), (.int ((i3 - zA) + (-1 : Int32)))])) _
          refine st42.trans ?_
          show Steps p.tables e below (T42.setTop (mkF m 61 #[.val (.ref ga), .val (.ref gb), .val (.ref gc), .val (.int i3), .val (.int ((i3 - zA) + (-1 : Int32)))] [(.int zB), (.int ((i3 - zA) + (-1 : Int32)))])) _
          refine XS.isub X42.here hx rfl (hb hby d39_61) rfl ?_
          refine XS.istore X42.here hx rfl (hb hby d39_62) rfl (l' := #[.val (.ref ga), .val (.ref gb), .val (.ref gc), .val (.int i3), .val (.int (((i3 - zA) + (-1 : Int32)) - zB))]) rfl ?_
          refine XS.iload X42.here hx rfl (hb hby d39_64) rfl ?_
          exact kk)
        by_cases hc44 : (((i3 - zA) + (-1 : Int32)) - zB) = (0 : Int32)
        · skip
          obtain ⟨fs, hrL, hrun, hended, hW, hsame⟩ := X42.leave (v := some (.int 47)) (fun h => by rw [Bd.returns] at h; cases h)
          refine ⟨_, _, pre43 _ ?_, hrun, hended, _, _, rfl, ?_, ⟨_, rfl⟩, hW, hsame.mono (by decide) (by decide)⟩
          · show Steps p.tables e below (T42.setTop (mkF m 66 #[.val (.ref ga), .val (.ref gb), .val (.ref gc), .val (.int i3), .val (.int (((i3 - zA) + (-1 : Int32)) - zB))] [(.int (((i3 - zA) + (-1 : Int32)) - zB))])) _
            refine XS.ifNo X42.here hx rfl (hb hby d39_66) rfl ((if0 _ _).trans (teq hc44).2) ?_
            show Steps p.tables e below (T42.setTop (mkF m 69 #[.val (.ref ga), .val (.ref gb), .val (.ref gc), .val (.int i3), .val (.int (((i3 - zA) + (-1 : Int32)) - zB))] [])) _
            refine XS.bipush X42.here hx rfl (hb hby d39_69) ?_
            show Steps p.tables e below (T42.setTop (mkF m 71 #[.val (.ref ga), .val (.ref gb), .val (.ref gc), .val (.int i3), .val (.int (((i3 - zA) + (-1 : Int32)) - zB))] [(.int 47)])) _
            exact retOut X42 hx Bd.returns own_nar47 (Or.inl ⟨rfl, by simp, _, rfl⟩) (hb hby d39_71) hrL
          · show Q_att _ _ _ _ _ _ _ _ _ _ _ _ _ _ _ _ _ _ _ _ _ _ _ _ _  T42.heap _
            rw [Kq42]
            exact ⟨(47 : Int32), rfl, N42, rfl, own_a4 h0_ hA hxA hB hxB hc33 hc37 hc40 hc44⟩
        · skip
          -- pc 78: String.length
          obtain ⟨cq45, kq45, q45a, q45b, q45c⟩ := isOf hZ Kq42 p13_E
          obtain ⟨_, _, ⟨T45, L45, k45, n45⟩, -, X45, ⟨Lc45, hQ45, l45, y45, z45⟩, st45⟩ := X42.virtualBack hx (y := (⟨"java/lang/String", "length", "()I"⟩ : MethodName)) (z := (⟨"java/lang/String", "length", "()I"⟩ : MethodName)) hown (mvT hZ (hw _ (mg (i := 175) rfl))) (mvT hZ (hw _ (mg (i := 93) rfl))) (notFace_of_selects (args := #[]) (mvT hZ (hw _ (mg (i := 95) rfl)))) (mvT hZ (hw _ (mg (i := 95) rfl))) (mvT hZ (hw _ (mg (i := 94) rfl))) (by decide) (backOf (W := 1) (slen l Z av0 hw [] gc vc kc zC vC cs h0 n0 (own_le p0_O) p0_O p1_S (hcs : ¬ (cs = (0 : Int32))) p13_E p14_F p15_F p16_A) hZ (hw _ (mg (i := 96) rfl)) (hw _ (mg (i := 6) rfl)) (by decide) (by decide)) q45a q45c (g := (mkF m 78 #[.val (.ref ga), .val (.ref gb), .val (.ref gc), .val (.int i3), .val (.int ((((i3 - zA) + (-1 : Int32)) - zB) + (-1 : Int32)))] [(.ref gc), (.int ((((i3 - zA) + (-1 : Int32)) - zB) + (-1 : Int32)))])) rfl (by rw [hml]; rfl) (Steps.refl _) (argsL := []) (rest := [(.int ((((i3 - zA) + (-1 : Int32)) - zB) + (-1 : Int32)))]) (lenOf pd_13 rfl) rfl (by show 2 * 0 + _ ≤ _; exact Nat.le_of_eq rfl) (hb hby d39_78) (fun vmx hWx => ⟨rfl, Kq42, (by decide : 0 + 0 ≤ _), (by decide : 0 + 0 ≤ _)⟩)
          dsimp only [Pt.U, Pt.locs, Pt.cells, Pt.slots] at X45 l45 y45 z45 st45 hQ45
          subst l45 y45 z45
          obtain ⟨rv45, Nq45, Kq45⟩ := hQ45
          subst rv45
          have N45 := Fr.app N42 Nq45
          have hlast : ((((i3 - zA) + (-1 : Int32)) - zB) + (-1 : Int32)) < zC := own_a6 h0_ hA hxA hB hxB hC hxC ht hc33 hc37 hc40 hc44
          -- pc 87: String.charAt
          obtain ⟨cq46, kq46, q46a, q46b, q46c⟩ := isOf hZ Kq45 p13_E
          obtain ⟨_, _, ⟨T46, L46, k46, n46⟩, -, X46, ⟨Lc46, hQ46, l46, y46, z46⟩, st46⟩ := X45.virtualBack hx (y := (⟨"java/lang/String", "charAt", "(I)C"⟩ : MethodName)) (z := (⟨"java/lang/String", "charAt", "(I)C"⟩ : MethodName)) hown (mvT hZ (hw _ (mg (i := 179) rfl))) (mvT hZ (hw _ (mg (i := 180) rfl))) (notFace_of_selects (args := #[]) (mvT hZ (hw _ (mg (i := 182) rfl)))) (mvT hZ (hw _ (mg (i := 182) rfl))) (mvT hZ (hw _ (mg (i := 181) rfl))) (by decide) (backOf (W := 0) (cha l Z av0 hw [] gc ((((i3 - zA) + (-1 : Int32)) - zB) + (-1 : Int32)) vc kc zC vC (xC.getD ((((i3 - zA) + (-1 : Int32)) - zB) + (-1 : Int32)).toNatClampNeg 0) fm cs h0 n0 (own_le p0_O) p0_O p1_S (hcs : ¬ (cs = (0 : Int32))) p3_S p4_r p13_E p14_F p15_F p16_A ((own_dec (own_sub (own_dec (own_sub h0_ hc33 hA.1).2 hc37).2 hc40 hB.1).2 hc44).2 : ¬ (((((i3 - zA) + (-1 : Int32)) - zB) + (-1 : Int32)) < (0 : Int32))) (hlast : ((((i3 - zA) + (-1 : Int32)) - zB) + (-1 : Int32)) < zC) (own_gd hxC _ : vC.getD ((((i3 - zA) + (-1 : Int32)) - zB) + (-1 : Int32)).toNatClampNeg (.int 0) = .int (xC.getD ((((i3 - zA) + (-1 : Int32)) - zB) + (-1 : Int32)).toNatClampNeg 0))) hZ (hw _ (mg (i := 183) rfl)) (hw _ (mg (i := 6) rfl)) (by decide) (by decide)) q46a q46c (g := (mkF m 87 #[.val (.ref ga), .val (.ref gb), .val (.ref gc), .val (.int i3), .val (.int ((((i3 - zA) + (-1 : Int32)) - zB) + (-1 : Int32)))] [(.int ((((i3 - zA) + (-1 : Int32)) - zB) + (-1 : Int32))), (.ref gc)])) rfl (by rw [hml]; rfl) (Steps.refl _) (argsL := [(.int ((((i3 - zA) + (-1 : Int32)) - zB) + (-1 : Int32)))]) (rest := []) (lenOf pd_27 rfl) rfl (by show 2 * 0 + _ ≤ _; exact Nat.le_of_eq rfl) (hb hby d39_87) (fun vmx hWx => ⟨rfl, Kq45, (by decide : 0 + 0 ≤ _), (by decide : 0 + 0 ≤ _)⟩)
          dsimp only [Pt.U, Pt.locs, Pt.cells, Pt.slots] at X46 l46 y46 z46 st46 hQ46
          subst l46 y46 z46
          obtain ⟨rv46, Nq46, Kq46⟩ := hQ46
          subst rv46
          have N46 := Fr.app N45 Nq46
          obtain ⟨fs, hrL, hrun, hended, hW, hsame⟩ := X46.leave (v := some (.int ((xC.getD ((((i3 - zA) + (-1 : Int32)) - zB) + (-1 : Int32)).toNatClampNeg 0) &&& (255 : Int32)))) (fun h => by rw [Bd.returns] at h; cases h)
          refine ⟨_, _, pre43 _ ?_, hrun, hended, _, _, rfl, ?_, ⟨_, rfl⟩, hW, hsame.mono (by decide) (by decide)⟩
          · show Steps p.tables e below (T42.setTop (mkF m 66 #[.val (.ref ga), .val (.ref gb), .val (.ref gc), .val (.int i3), .val (.int (((i3 - zA) + (-1 : Int32)) - zB))] [(.int (((i3 - zA) + (-1 : Int32)) - zB))])) _
            refine XS.ifYes X42.here hx rfl (pc0 := 66) (pc' := 72) rfl (hb hby d39_66) rfl ((if0 _ _).trans (feq hc44).2) (by decide) (by decide) ?_
            show Steps p.tables e below (T42.setTop (mkF m 72 #[.val (.ref ga), .val (.ref gb), .val (.ref gc), .val (.int i3), .val (.int (((i3 - zA) + (-1 : Int32)) - zB))] [])) _
            refine XS.iinc X42.here hx rfl (hb hby d39_72) rfl (l' := #[.val (.ref ga), .val (.ref gb), .val (.ref gc), .val (.int i3), .val (.int ((((i3 - zA) + (-1 : Int32)) - zB) + (-1 : Int32)))]) (by rw [own_im1] <;> rfl) ?_
            refine XS.iload X42.here hx rfl (hb hby d39_75) rfl ?_
            show Steps p.tables e below (T42.setTop (mkF m 77 #[.val (.ref ga), .val (.ref gb), .val (.ref gc), .val (.int i3), .val (.int ((((i3 - zA) + (-1 : Int32)) - zB) + (-1 : Int32)))] [(.int ((((i3 - zA) + (-1 : Int32)) - zB) + (-1 : Int32)))])) _
            refine XS.aloadN X42.here hx rfl (hb hby d39_77) rfl rfl ?_
            show Steps p.tables e below (T42.setTop (mkF m 78 #[.val (.ref ga), .val (.ref gb), .val (.ref gc), .val (.int i3), .val (.int ((((i3 - zA) + (-1 : Int32)) - zB) + (-1 : Int32)))] [(.ref gc), (.int ((((i3 - zA) + (-1 : Int32)) - zB) + (-1 : Int32)))])) _
            refine st45.trans ?_
            show Steps p.tables e below (T45.setTop (mkF m 81 #[.val (.ref ga), .val (.ref gb), .val (.ref gc), .val (.int i3), .val (.int ((((i3 - zA) + (-1 : Int32)) - zB) + (-1 : Int32)))] [(.int zC), (.int ((((i3 - zA) + (-1 : Int32)) - zB) + (-1 : Int32)))])) _
            refine XS.icmpNo X45.here hx rfl (hb hby d39_81) rfl (tlt (hlast : ((((i3 - zA) + (-1 : Int32)) - zB) + (-1 : Int32)) < zC)).2.1 ?_
            refine XS.aloadN X45.here hx rfl (hb hby d39_84) rfl rfl ?_
            show Steps p.tables e below (T45.setTop (mkF m 85 #[.val (.ref ga), .val (.ref gb), .val (.ref gc), .val (.int i3), .val (.int ((((i3 - zA) + (-1 : Int32)) - zB) + (-1 : Int32)))] [(.ref gc)])) _
            refine XS.iload X45.here hx rfl (hb hby d39_85) rfl ?_
            show Steps p.tables e below (T45.setTop (mkF m 87 #[.val (.ref ga), .val (.ref gb), .val (.ref gc), .val (.int i3), .val (.int ((((i3 - zA) + (-1 : Int32)) - zB) + (-1 : Int32)))] [(.int ((((i3 - zA) + (-1 : Int32)) - zB) + (-1 : Int32))), (.ref gc)])) _
            refine st46.trans ?_
            show Steps p.tables e below (T46.setTop (mkF m 90 #[.val (.ref ga), .val (.ref gb), .val (.ref gc), .val (.int i3), .val (.int ((((i3 - zA) + (-1 : Int32)) - zB) + (-1 : Int32)))] [(.int ((xC.getD ((((i3 - zA) + (-1 : Int32)) - zB) + (-1 : Int32)).toNatClampNeg 0) &&& (255 : Int32)))])) _
            exact retOut X46 hx Bd.returns (own_narc _) (Or.inl ⟨rfl, by simp, _, rfl⟩) (hb hby d39_90) hrL
          · show Q_att _ _ _ _ _ _ _ _ _ _ _ _ _ _ _ _ _ _ _ _ _ _ _ _ _  T46.heap _
            rw [Kq46]
            exact ⟨((xC.getD ((((i3 - zA) + (-1 : Int32)) - zB) + (-1 : Int32)).toNatClampNeg 0) &&& (255 : Int32)), rfl, N46, rfl, own_a5 h0_ hA hxA hB hxB hc33 hc37 hc40 hc44⟩
theorem d33_0 : decode method_4_code 0 = .ok (.iload 4, 2) := by decide +kernel
theorem d33_2 : decode method_4_code 2 = .ok (.aload_n 0, 1) := by decide +kernel
theorem d33_3 : decode method_4_code 3 = .ok (.invokevirtual 16, 3) := by decide +kernel
theorem d33_6 : decode method_4_code 6 = .ok (.if_icmp .ge 20, 3) := by decide +kernel
theorem d33_9 : decode method_4_code 9 = .ok (.aload_n 0, 1) := by decide +kernel
theorem d33_10 : decode method_4_code 10 = .ok (.iload 4, 2) := by decide +kernel
theorem d33_12 : decode method_4_code 12 = .ok (.invokevirtual 20, 3) := by decide +kernel
theorem d33_15 : decode method_4_code 15 = .ok (.aload_n 1, 1) := by decide +kernel
theorem d33_16 : decode method_4_code 16 = .ok (.aload_n 2, 1) := by decide +kernel
theorem d33_17 : decode method_4_code 17 = .ok (.aload_n 3, 1) := by decide +kernel
theorem d33_18 : decode method_4_code 18 = .ok (.iload 4, 2) := by decide +kernel
theorem d33_20 : decode method_4_code 20 = .ok (.invokestatic 24, 3) := by decide +kernel
theorem pd_30 : parseMethodDescriptor "(Ljava/lang/String;Ljava/lang/String;Ljava/lang/String;I)C" = some ⟨[(.object "java/lang/String"), (.object "java/lang/String"), (.object "java/lang/String"), .int], some .char⟩ := by decide +kernel
theorem d33_23 : decode method_4_code 23 = .ok (.if_icmp .ne 7, 3) := by decide +kernel
theorem d33_26 : decode method_4_code 26 = .ok (.iconst 1, 1) := by decide +kernel
theorem d33_27 : decode method_4_code 27 = .ok (.goto 4, 3) := by decide +kernel
theorem d33_31 : decode method_4_code 31 = .ok (.ireturn, 1) := by decide +kernel
theorem ef_okk (m : MethodId) (a0 : Addr) (ga : Addr) (gb : Addr) (gc : Addr) (i4 : Int32) : entryFrame m #[(.ref a0), (.ref ga), (.ref gb), (.ref gc), (.int i4)] 5 = mkF m 0 #[.val (.ref a0), .val (.ref ga), .val (.ref gb), .val (.ref gc), .val (.int i4)] [] := by first | (simp [entryFrame, mkF, argsToLocals, Value.category]; done) | rfl
def Q_okk (Z : State) (a0 : Addr) (ga : Addr) (gb : Addr) (gc : Addr) (i4 : Int32) (vS : Addr) (kS : ClassId) (zS : Int32) (lS : List Value) (va : Addr) (ka : ClassId) (zA : Int32) (vA : List Value) (vb : Addr) (kb : ClassId) (zB : Int32) (vB : List Value) (vc : Addr) (kc : ClassId) (zC : Int32) (vC : List Value) (xA : List Int32) (xB : List Int32) (xC : List Int32) (fm : Value) (cs : Int32) (h0 : Heap) (n0 : Nat) (v : Option Value) (h : Heap) (L : List Loc) : Prop := v = some (.int 1) ∧ Fr n0 L ∧ h = h0
set_option maxRecDepth 65536 in
set_option maxHeartbeats 40000000 in
theorem okk (l : Launch) (Z : State) (av0 : Array Value) (hw : ∀ d ∈ tables_1, d.before av0 Z = true) (ws : List Jvm.Cond) (a0 : Addr) (ga : Addr) (gb : Addr) (gc : Addr) (i4 : Int32) (vS : Addr) (kS : ClassId) (zS : Int32) (lS : List Value) (va : Addr) (ka : ClassId) (zA : Int32) (vA : List Value) (vb : Addr) (kb : ClassId) (zB : Int32) (vB : List Value) (vc : Addr) (kc : ClassId) (zC : Int32) (vC : List Value) (xA : List Int32) (xB : List Int32) (xC : List Int32) (fm : Value) (cs : Int32) (h0 : Heap) (n0 : Nat) (Z0 : n0 ≤ h0.size) (p0_O : Old Z n0 h0) (p1_S : Sta Z Z.heap "java/lang/String" "COMPACT_STRINGS" "Z" (.int cs)) (hcs : ¬ (cs = (0 : Int32))) (p3_S : Sta Z Z.heap "jdk/internal/util/Preconditions" "SIOOBE_FORMATTER" "Ljava/util/function/BiFunction;" fm) (p4_r : fm.isRef = true) (p5_E : Exa Z h0 a0 "java/lang/String") (p6_F : Fld Z h0 a0 "java/lang/String" "coder" "B" (.int 0)) (p7_F : Fld Z h0 a0 "java/lang/String" "value" "[B" (.ref vS)) (p8_A : Arv Z h0 vS kS .byte zS lS (.int 0)) (p9_E : Exa Z h0 ga "java/lang/String") (p10_F : Fld Z h0 ga "java/lang/String" "coder" "B" (.int 0)) (p11_F : Fld Z h0 ga "java/lang/String" "value" "[B" (.ref va)) (p12_A : Arv Z h0 va ka .byte zA vA (.int 0)) (p13_E : Exa Z h0 gb "java/lang/String") (p14_F : Fld Z h0 gb "java/lang/String" "coder" "B" (.int 0)) (p15_F : Fld Z h0 gb "java/lang/String" "value" "[B" (.ref vb)) (p16_A : Arv Z h0 vb kb .byte zB vB (.int 0)) (p17_E : Exa Z h0 gc "java/lang/String") (p18_F : Fld Z h0 gc "java/lang/String" "coder" "B" (.int 0)) (p19_F : Fld Z h0 gc "java/lang/String" "value" "[B" (.ref vc)) (p20_A : Arv Z h0 vc kc .byte zC vC (.int 0)) (hA : Ln zA vA 2) (hB : Ln zB vB 2) (hC : Ln zC vC 2) (hxA : vA = xA.map Value.int) (hxB : vB = xB.map Value.int) (hxC : vC = xC.map Value.int) (hS : Ln zS lS 8) (hxS : lS = (Tot xA xB xC).map Value.int) (h0_ : ¬ (i4 < (0 : Int32))) :
    MetFree l (⟨"com/example/ledgerline/ledgerline/KeyToStringPinLaw", "ok", "(Ljava/lang/String;Ljava/lang/String;Ljava/lang/String;Ljava/lang/String;I)Z"⟩ : MethodName) (head1 (Jvm.Cond.code (⟨"com/example/ledgerline/ledgerline/KeyToStringPinLaw", "ok", "(Ljava/lang/String;Ljava/lang/String;Ljava/lang/String;Ljava/lang/String;I)Z"⟩ : MethodName) method_4_code 5 (some .boolean) :: ws) ({ frames := 5, cells := 0, slots := 0, locals := 70 } : Room)) (fun a U => a = #[(.ref a0), (.ref ga), (.ref gb), (.ref gc), (.int i4)] ∧ Z.Warmed39 U.vm ∧ U.heap = h0) (fun _ _ _ _ _ => True) (fun _ U o U' => ∃ v L, o = .returned v ∧ Q_okk Z a0 ga gb gc i4 vS kS zS lS va ka zA vA vb kb zB vB vc kc zC vC xA xB xC fm cs h0 n0 v U'.heap L ∧ FrameEnd U o U' L ({ frames := 5, cells := 0, slots := 0, locals := 70 } : Room).cells ({ frames := 5, cells := 0, slots := 0, locals := 70 } : Room).slots) := by
  refine MetFree.of_bodySF (plainFor_of_name pn_com_example_ledgerline_ledgerline_KeyToStringPinLaw) hisR ?_
  intro p e s m args below meth c s₁ Bd hml0 hP hK
  obtain ⟨rfl, hZ, hh⟩ := hP
  have hx := Bd.exec
  have hby := Bd.bytes
  have hml : c.maxLocals = 5 := hml0
  have hown : s.vm.findClass "com/example/ledgerline/ledgerline/KeyToStringPinLaw" = some m.cls := findClass_of_methodNamed Bd.named
  have hnm := (name_of_methodNamed Bd.named Bd.method).1
  have X0 : Stand p l e ({ frames := 5, cells := 0, slots := 0, locals := 70 } : Room) s m #[(.ref a0), (.ref ga), (.ref gb), (.ref gc), (.int i4)] below meth c s₁ [] 0 0 := Stand.of_body Bd
  have e0 : s₁.heap = h0 := by rw [← hh, Bd.state]; rfl
  have N0 := Fr.nil n0
  have pre0 : ∀ tz_, Steps p.tables e below (s₁.setTop (mkF m 0 #[.val (.ref a0), .val (.ref ga), .val (.ref gb), .val (.ref gc), .val (.int i4)] [])) tz_ → Steps p.tables e below (s₁.setTop (entryFrame m #[(.ref a0), (.ref ga), (.ref gb), (.ref gc), (.int i4)] 5)) tz_ := fun tz_ kz_ => castTop (ef_okk m a0 ga gb gc i4) kz_
  -- pc 3: String.length
  obtain ⟨cq31, kq31, q31a, q31b, q31c⟩ := isOf hZ e0 p5_E
  obtain ⟨_, _, ⟨T31, L31, k31, n31⟩, -, X31, ⟨Lc31, hQ31, l31, y31, z31⟩, st31⟩ := X0.virtualBack hx (y := (⟨"java/lang/String", "length", "()I"⟩ : MethodName)) (z := (⟨"java/lang/String", "length", "()I"⟩ : MethodName)) hown (mvT hZ (hw _ (mg (i := 175) rfl))) (mvT hZ (hw _ (mg (i := 93) rfl))) (notFace_of_selects (args := #[]) (mvT hZ (hw _ (mg (i := 95) rfl)))) (mvT hZ (hw _ (mg (i := 95) rfl))) (mvT hZ (hw _ (mg (i := 94) rfl))) (by decide) (backOf (W := 1) (slen l Z av0 hw [] a0 vS kS zS lS cs h0 n0 (own_le p0_O) p0_O p1_S (hcs : ¬ (cs = (0 : Int32))) p5_E p6_F p7_F p8_A) hZ (hw _ (mg (i := 96) rfl)) (hw _ (mg (i := 6) rfl)) (by decide) (by decide)) q31a q31c (g := (mkF m 3 #[.val (.ref a0), .val (.ref ga), .val (.ref gb), .val (.ref gc), .val (.int i4)] [(.ref a0), (.int i4)])) rfl (by rw [hml]; rfl) (Steps.refl _) (argsL := []) (rest := [(.int i4)]) (lenOf pd_13 rfl) rfl (by show 2 * 0 + _ ≤ _; exact Nat.le_of_eq rfl) (hb hby d33_3) (fun vmx hWx => ⟨rfl, e0, (by decide : 0 + 0 ≤ _), (by decide : 0 + 0 ≤ _)⟩)
  dsimp only [Pt.U, Pt.locs, Pt.cells, Pt.slots] at X31 l31 y31 z31 st31 hQ31
  subst l31 y31 z31
  obtain ⟨rv31, Nq31, Kq31⟩ := hQ31
  subst rv31
  have N31 := Fr.app N0 Nq31
  have pre32 : ∀ tz_, Steps p.tables e below (T31.setTop (mkF m 6 #[.val (.ref a0), .val (.ref ga), .val (.ref gb), .val (.ref gc), .val (.int i4)] [(.int zS), (.int i4)])) tz_ → Steps p.tables e below (s₁.setTop (entryFrame m #[(.ref a0), (.ref ga), (.ref gb), (.ref gc), (.int i4)] 5)) tz_ := fun tz_ kk => pre0 tz_ (by
    show Steps p.tables e below (s₁.setTop (mkF m 0 #[.val (.ref a0), .val (.ref ga), .val (.ref gb), .val (.ref gc), .val (.int i4)] [])) _
    refine XS.iload X0.here hx rfl (hb hby d33_0) rfl ?_
    refine XS.aloadN X0.here hx rfl (hb hby d33_2) rfl rfl ?_
    show Steps p.tables e below (s₁.setTop (mkF m 3 #[.val (.ref a0), .val (.ref ga), .val (.ref gb), .val (.ref gc), .val (.int i4)] [(.ref a0), (.int i4)])) _
    refine st31.trans ?_
    exact kk)
  by_cases hc33 : i4 < zS
  · skip
    -- pc 12: String.charAt
    obtain ⟨cq34, kq34, q34a, q34b, q34c⟩ := isOf hZ Kq31 p5_E
    obtain ⟨_, _, ⟨T34, L34, k34, n34⟩, -, X34, ⟨Lc34, hQ34, l34, y34, z34⟩, st34⟩ := X31.virtualBack hx (y := (⟨"java/lang/String", "charAt", "(I)C"⟩ : MethodName)) (z := (⟨"java/lang/String", "charAt", "(I)C"⟩ : MethodName)) hown (mvT hZ (hw _ (mg (i := 179) rfl))) (mvT hZ (hw _ (mg (i := 180) rfl))) (notFace_of_selects (args := #[]) (mvT hZ (hw _ (mg (i := 182) rfl)))) (mvT hZ (hw _ (mg (i := 182) rfl))) (mvT hZ (hw _ (mg (i := 181) rfl))) (by decide) (backOf (W := 0) (cha l Z av0 hw [] a0 i4 vS kS zS lS ((Tot xA xB xC).getD i4.toNatClampNeg 0) fm cs h0 n0 (own_le p0_O) p0_O p1_S (hcs : ¬ (cs = (0 : Int32))) p3_S p4_r p5_E p6_F p7_F p8_A (h0_ : ¬ (i4 < (0 : Int32))) (hc33 : i4 < zS) (own_gd hxS _ : lS.getD i4.toNatClampNeg (.int 0) = .int ((Tot xA xB xC).getD i4.toNatClampNeg 0))) hZ (hw _ (mg (i := 183) rfl)) (hw _ (mg (i := 6) rfl)) (by decide) (by decide)) q34a q34c (g := (mkF m 12 #[.val (.ref a0), .val (.ref ga), .val (.ref gb), .val (.ref gc), .val (.int i4)] [(.int i4), (.ref a0)])) rfl (by rw [hml]; rfl) (Steps.refl _) (argsL := [(.int i4)]) (rest := []) (lenOf pd_27 rfl) rfl (by show 2 * 0 + _ ≤ _; exact Nat.le_of_eq rfl) (hb hby d33_12) (fun vmx hWx => ⟨rfl, Kq31, (by decide : 0 + 0 ≤ _), (by decide : 0 + 0 ≤ _)⟩)
    dsimp only [Pt.U, Pt.locs, Pt.cells, Pt.slots] at X34 l34 y34 z34 st34 hQ34
    subst l34 y34 z34
    obtain ⟨rv34, Nq34, Kq34⟩ := hQ34
    subst rv34
    have N34 := Fr.app N31 Nq34
    -- pc 20: KeyToStringPinLaw.at
    obtain ⟨_, _, ⟨T35, L35, k35, n35⟩, -, X35, ⟨Lc35, hQ35, l35, y35, z35⟩, st35⟩ := Jvm.LawKit.callS X34 hx (y := (⟨"com/example/ledgerline/ledgerline/KeyToStringPinLaw", "at", "(Ljava/lang/String;Ljava/lang/String;Ljava/lang/String;I)C"⟩ : MethodName)) hown (mvT hZ (hw _ (mg (i := 200) rfl))) (mvT hZ (hw _ (mg (i := 201) rfl))) (mvT hZ (hw _ (mg (i := 2) rfl))) (mvT hZ (hw _ (mg (i := 202) rfl))) (by decide) (backOf (W := 1) (att l Z av0 hw [] ga gb gc i4 va ka zA vA vb kb zB vB vc kc zC vC xA xB xC fm cs h0 n0 (own_le p0_O) p0_O p1_S (hcs : ¬ (cs = (0 : Int32))) p3_S p4_r p9_E p10_F p11_F p12_A p13_E p14_F p15_F p16_A p17_E p18_F p19_F p20_A (hA : Ln zA vA 2) (hB : Ln zB vB 2) (hC : Ln zC vC 2) (hxA : vA = xA.map Value.int) (hxB : vB = xB.map Value.int) (hxC : vC = xC.map Value.int) (h0_ : ¬ (i4 < (0 : Int32))) ((by have u := hc33; rw [i32lt, own_len2 hS hxS] at u; exact u) : i4.toInt < (Tot xA xB xC).length)) hZ (hw _ (mg (i := 202) rfl)) (hw _ (mg (i := 2) rfl)) (by decide) (by decide)) (g := (mkF m 20 #[.val (.ref a0), .val (.ref ga), .val (.ref gb), .val (.ref gc), .val (.int i4)] [(.int i4), (.ref gc), (.ref gb), (.ref ga), (.int (((Tot xA xB xC).getD i4.toNatClampNeg 0) &&& (255 : Int32)))])) rfl (by rw [hml]; rfl) (argsL := [(.ref ga), (.ref gb), (.ref gc), (.int i4)]) (rest := [(.int (((Tot xA xB xC).getD i4.toNatClampNeg 0) &&& (255 : Int32)))]) (lenOf pd_30 rfl) rfl (by show 2 * 0 + _ ≤ _; exact Nat.le_of_eq rfl) (hb hby d33_20) (fun vmx hWx => ⟨rfl, Kq34, (by decide : 0 + 0 ≤ _), (by decide : 0 + 0 ≤ _)⟩)
    dsimp only [Pt.U, Pt.locs, Pt.cells, Pt.slots] at X35 l35 y35 z35 st35 hQ35
    subst l35 y35 z35
    obtain ⟨r_35, rv35, Nq35, Kq35, u35_0⟩ := hQ35
    subst rv35
    have N35 := Fr.app N34 Nq35
    obtain ⟨fs, hrL, hrun, hended, hW, hsame⟩ := X35.leave (v := some (.int 1)) (fun h => by rw [Bd.returns] at h; cases h)
    refine ⟨_, _, pre32 _ ?_, hrun, hended, _, _, rfl, ?_, ⟨_, rfl⟩, hW, hsame.mono (by decide) (by decide)⟩
    · show Steps p.tables e below (T31.setTop (mkF m 6 #[.val (.ref a0), .val (.ref ga), .val (.ref gb), .val (.ref gc), .val (.int i4)] [(.int zS), (.int i4)])) _
      refine XS.icmpNo X31.here hx rfl (hb hby d33_6) rfl (tlt hc33).2.1 ?_
      refine XS.aloadN X31.here hx rfl (hb hby d33_9) rfl rfl ?_
      refine XS.iload X31.here hx rfl (hb hby d33_10) rfl ?_
      show Steps p.tables e below (T31.setTop (mkF m 12 #[.val (.ref a0), .val (.ref ga), .val (.ref gb), .val (.ref gc), .val (.int i4)] [(.int i4), (.ref a0)])) _
      refine st34.trans ?_
      show Steps p.tables e below (T34.setTop (mkF m 15 #[.val (.ref a0), .val (.ref ga), .val (.ref gb), .val (.ref gc), .val (.int i4)] [(.int (((Tot xA xB xC).getD i4.toNatClampNeg 0) &&& (255 : Int32)))])) _
      refine XS.aloadN X34.here hx rfl (hb hby d33_15) rfl rfl ?_
      refine XS.aloadN X34.here hx rfl (hb hby d33_16) rfl rfl ?_
      refine XS.aloadN X34.here hx rfl (hb hby d33_17) rfl rfl ?_
      refine XS.iload X34.here hx rfl (hb hby d33_18) rfl ?_
      show Steps p.tables e below (T34.setTop (mkF m 20 #[.val (.ref a0), .val (.ref ga), .val (.ref gb), .val (.ref gc), .val (.int i4)] [(.int i4), (.ref gc), (.ref gb), (.ref ga), (.int (((Tot xA xB xC).getD i4.toNatClampNeg 0) &&& (255 : Int32)))])) _
      refine st35 _ ?_
      show Steps p.tables e below (T35.setTop (mkF m 23 #[.val (.ref a0), .val (.ref ga), .val (.ref gb), .val (.ref gc), .val (.int i4)] [(.int r_35), (.int (((Tot xA xB xC).getD i4.toNatClampNeg 0) &&& (255 : Int32)))])) _
      refine XS.icmpNo X35.here hx rfl (hb hby d33_23) rfl (teq (u35_0.symm : (((Tot xA xB xC).getD i4.toNatClampNeg 0) &&& (255 : Int32)) = r_35)).2 ?_
      refine XS.iconst X35.here hx rfl (hb hby d33_26) ?_
      refine XS.goto X35.here hx rfl (pc0 := 27) (pc' := 31) rfl (hb hby d33_27) (by decide) (by decide) ?_
      show Steps p.tables e below (T35.setTop (mkF m 31 #[.val (.ref a0), .val (.ref ga), .val (.ref gb), .val (.ref gc), .val (.int i4)] [(.int 1)])) _
      exact retN X35 hx (t := .boolean) Bd.returns (by simp) (hb hby d33_31) hrL
    · show Q_okk _ _ _ _ _ _ _ _ _ _ _ _ _ _ _ _ _ _ _ _ _ _ _ _ _ _ _ _ _ _  T35.heap _
      rw [Kq35]
      exact ⟨rfl, N35, rfl⟩
  · skip
    obtain ⟨fs, hrL, hrun, hended, hW, hsame⟩ := X31.leave (v := some (.int 1)) (fun h => by rw [Bd.returns] at h; cases h)
    refine ⟨_, _, pre32 _ ?_, hrun, hended, _, _, rfl, ?_, ⟨_, rfl⟩, hW, hsame.mono (by decide) (by decide)⟩
    · show Steps p.tables e below (T31.setTop (mkF m 6 #[.val (.ref a0), .val (.ref ga), .val (.ref gb), .val (.ref gc), .val (.int i4)] [(.int zS), (.int i4)])) _
      refine XS.icmpYes X31.here hx rfl (pc0 := 6) (pc' := 26) rfl (hb hby d33_6) rfl (flt hc33).2.1 (by decide) (by decide) ?_
      refine XS.iconst X31.here hx rfl (hb hby d33_26) ?_
      refine XS.goto X31.here hx rfl (pc0 := 27) (pc' := 31) rfl (hb hby d33_27) (by decide) (by decide) ?_
      show Steps p.tables e below (T31.setTop (mkF m 31 #[.val (.ref a0), .val (.ref ga), .val (.ref gb), .val (.ref gc), .val (.int i4)] [(.int 1)])) _
      exact retN X31 hx (t := .boolean) Bd.returns (by simp) (hb hby d33_31) hrL
    · show Q_okk _ _ _ _ _ _ _ _ _ _ _ _ _ _ _ _ _ _ _ _ _ _ _ _ _ _ _ _ _ _  T31.heap _
      rw [Kq31]
      exact ⟨rfl, N31, rfl⟩
theorem pd_0 : parseMethodDescriptor "(II)Ljava/lang/String;" = some ⟨[.int, .int], some (.object "java/lang/String")⟩ := by decide +kernel
theorem pd_8 : parseMethodDescriptor "(Ljava/lang/String;Ljava/lang/String;Ljava/lang/String;)V" = some ⟨[(.object "java/lang/String"), (.object "java/lang/String"), (.object "java/lang/String")], none⟩ := by decide +kernel
theorem pd_26 : parseMethodDescriptor "(Ljava/lang/String;Ljava/lang/String;Ljava/lang/String;Ljava/lang/String;I)Z" = some ⟨[(.object "java/lang/String"), (.object "java/lang/String"), (.object "java/lang/String"), (.object "java/lang/String"), .int], some .boolean⟩ := by decide +kernel
theorem ef_rm0 (m : MethodId) (i0 : Int32) (i1 : Int32) (i2 : Int32) (i3 : Int32) : entryFrame m #[(.int i0), (.int i1), (.int i2), (.int i3)] maxLocals = mkF m 0 #[.val (.int i0), .val (.int i1), .val (.int i2), .val (.int i3), .unset, .unset, .unset, .unset, .unset, .unset, .unset] [] := by first | (simp [entryFrame, mkF, argsToLocals, Value.category, maxLocals]; done) | rfl
def Q_rm0 (Z : State) (i0 : Int32) (i1 : Int32) (i2 : Int32) (i3 : Int32) (cs : Int32) (fm : Value) (h0 : Heap) (n0 : Nat) (v : Option Value) (h : Heap) (vm : Vm) (L : List Loc) : Prop := v = some (.int 1) ∧ Fr n0 L ∧ Keep h0 h [] ∧ True
set_option maxRecDepth 65536 in
set_option maxHeartbeats 40000000 in
theorem rm0 (l : Launch) (Z : State) (av0 : Array Value) (hw : ∀ d ∈ tables_1, d.before av0 Z = true) (ws : List Jvm.Cond) (i0 : Int32) (i1 : Int32) (i2 : Int32) (i3 : Int32) (cs : Int32) (fm : Value) (h0 : Heap) (n0 : Nat) (Z0 : n0 ≤ h0.size) (p0_O : Old Z n0 h0) (p1_S : Sta Z Z.heap "java/lang/String" "COMPACT_STRINGS" "Z" (.int cs)) (hcs : ¬ (cs = (0 : Int32))) (p3_S : Sta Z Z.heap "jdk/internal/util/Preconditions" "SIOOBE_FORMATTER" "Ljava/util/function/BiFunction;" fm) (p4_r : fm.isRef = true) (hheld : Jvm.Lit.constHeld Z "java/lang/String" 7) (hcw : Jvm.Lit.compactW.before av0 Z = true) (hheld2 : Jvm.Lit.constHeld Z "com/example/ledgerline/ledgerline/Settlement$Key" 26) :
    MetFree l x (head1 (Jvm.Cond.code x code maxLocals ret :: ws) room_1) (fun a U => a = #[(.int i0), (.int i1), (.int i2), (.int i3)] ∧ Z.Warmed39 U.vm ∧ U.heap = h0 ∧ Emp Z h0 U.vm) (fun _ _ _ _ _ => True) (fun _ U o U' => ∃ v L, o = .returned v ∧ Q_rm0 Z i0 i1 i2 i3 cs fm h0 n0 v U'.heap U'.vm L ∧ ReturnedEndW U o U' L room_1.cells room_1.slots) := by
  refine MetFree.of_bodySF (plainFor_of_name pn_com_example_ledgerline_ledgerline_KeyToStringPinLaw) hisR ?_
  intro p e s m args below meth c s₁ Bd hml0 hP hK
  obtain ⟨rfl, hZ, hh, hV0⟩ := hP
  have hx := Bd.exec
  have hby := Bd.bytes
  have hml : c.maxLocals = 11 := hml0
  have hown : s.vm.findClass "com/example/ledgerline/ledgerline/KeyToStringPinLaw" = some m.cls := findClass_of_methodNamed Bd.named
  have hnm := (name_of_methodNamed Bd.named Bd.method).1
  have X0 : Stand p l e room_1 s m #[(.int i0), (.int i1), (.int i2), (.int i3)] below meth c s₁ [] 0 0 := Stand.of_body Bd
  have e0 : s₁.heap = h0 := by rw [← hh, Bd.state]; rfl
  have N0 := Fr.nil n0
  have pre0 : ∀ tz_, Steps p.tables e below (s₁.setTop (mkF m 0 #[.val (.int i0), .val (.int i1), .val (.int i2), .val (.int i3), .unset, .unset, .unset, .unset, .unset, .unset, .unset] [])) tz_ → Steps p.tables e below (s₁.setTop (entryFrame m #[(.int i0), (.int i1), (.int i2), (.int i3)] maxLocals)) tz_ := fun tz_ kz_ => castTop (ef_rm0 m i0 i1 i2 i3) kz_
  have hS0 : s.Since s.vm 0 := (State.WarmedH.refl s).since 0
  have K0 : Keep h0 h0 [] := Keep.refl h0 []
  have pre31 : ∀ tz_, Steps p.tables e below (s₁.setTop (mkF m 25 #[.val (.int i0), .val (.int i1), .val (.int i2), .val (.int i3), .val (.int ((i3 &&& (3 : Int32)) % (3 : Int32))), .val (.int ((((i3.toUInt32 >>> ((2 : Int32) &&& 31).toUInt32).toInt32) &&& (3 : Int32)) % (3 : Int32))), .val (.int ((((i3.toUInt32 >>> ((4 : Int32) &&& 31).toUInt32).toInt32) &&& (3 : Int32)) % (3 : Int32))), .unset, .unset, .unset, .unset] [])) tz_ → Steps p.tables e below (s₁.setTop (entryFrame m #[(.int i0), (.int i1), (.int i2), (.int i3)] maxLocals)) tz_ := fun tz_ kk => pre0 tz_ (by
    show Steps p.tables e below (s₁.setTop (mkF m 0 #[.val (.int i0), .val (.int i1), .val (.int i2), .val (.int i3), .unset, .unset, .unset, .unset, .unset, .unset, .unset] [])) _
    refine XS.iloadN X0.here hx rfl (hb hby at_0) rfl ?_
    refine XS.iconst X0.here hx rfl (hb hby at_1) ?_
    show Steps p.tables e below (s₁.setTop (mkF m 2 #[.val (.int i0), .val (.int i1), .val (.int i2), .val (.int i3), .unset, .unset, .unset, .unset, .unset, .unset, .unset] [(.int 3), (.int i3)])) _
    refine XS.iand X0.here hx rfl (hb hby at_2) rfl ?_
    show Steps p.tables e below (s₁.setTop (mkF m 3 #[.val (.int i0), .val (.int i1), .val (.int i2), .val (.int i3), .unset, .unset, .unset, .unset, .unset, .unset, .unset] [(.int (i3 &&& (3 : Int32)))])) _
    refine XS.iconst X0.here hx rfl (hb hby at_3) ?_
    show Steps p.tables e below (s₁.setTop (mkF m 4 #[.val (.int i0), .val (.int i1), .val (.int i2), .val (.int i3), .unset, .unset, .unset, .unset, .unset, .unset, .unset] [(.int 3), (.int (i3 &&& (3 : Int32)))])) _
    refine Jvm.RoadKit.iremM X0 hx rfl (hb hby at_4) rfl (by decide) ?_
    refine XS.istore X0.here hx rfl (hb hby at_5) rfl (l' := #[.val (.int i0), .val (.int i1), .val (.int i2), .val (.int i3), .val (.int ((i3 &&& (3 : Int32)) % (3 : Int32))), .unset, .unset, .unset, .unset, .unset, .unset]) rfl ?_
    refine XS.iloadN X0.here hx rfl (hb hby at_7) rfl ?_
    show Steps p.tables e below (s₁.setTop (mkF m 8 #[.val (.int i0), .val (.int i1), .val (.int i2), .val (.int i3), .val (.int ((i3 &&& (3 : Int32)) % (3 : Int32))), .unset, .unset, .unset, .unset, .unset, .unset] [(.int i3)])) _
    refine XS.iconst X0.here hx rfl (hb hby at_8) ?_
    show Steps p.tables e below (s₁.setTop (mkF m 9 #[.val (.int i0), .val (.int i1), .val (.int i2), .val (.int i3), .val (.int ((i3 &&& (3 : Int32)) % (3 : Int32))), .unset, .unset, .unset, .unset, .unset, .unset] [(.int 2), (.int i3)])) _
    refine XS.iushr X0.here hx rfl (hb hby at_9) rfl ?_
    refine XS.iconst X0.here hx rfl (hb hby at_10) ?_
    show Steps p.tables e below (s₁.setTop (mkF m 11 #[.val (.int i0), .val (.int i1), .val (.int i2), .val (.int i3), .val (.int ((i3 &&& (3 : Int32)) % (3 : Int32))), .unset, .unset, .unset, .unset, .unset, .unset] [(.int 3), (.int ((i3.toUInt32 >>> ((2 : Int32) &&& 31).toUInt32).toInt32))])) _
    refine XS.iand X0.here hx rfl (hb hby at_11) rfl ?_
    show Steps p.tables e below (s₁.setTop (mkF m 12 #[.val (.int i0), .val (.int i1), .val (.int i2), .val (.int i3), .val (.int ((i3 &&& (3 : Int32)) % (3 : Int32))), .unset, .unset, .unset, .unset, .unset, .unset] [(.int (((i3.toUInt32 >>> ((2 : Int32) &&& 31).toUInt32).toInt32) &&& (3 : Int32)))])) _
    refine XS.iconst X0.here hx rfl (hb hby at_12) ?_
    show Steps p.tables e below (s₁.setTop (mkF m 13 #[.val (.int i0), .val (.int i1), .val (.int i2), .val (.int i3), .val (.int ((i3 &&& (3 : Int32)) % (3 : Int32))), .unset, .unset, .unset, .unset, .unset, .unset] [(.int 3), (.int (((i3.toUInt32 >>> ((2 : Int32) &&& 31).toUInt32).toInt32) &&& (3 : Int32)))])) _
    refine Jvm.RoadKit.iremM X0 hx rfl (hb hby at_13) rfl (by decide) ?_
    refine XS.istore X0.here hx rfl (hb hby at_14) rfl (l' := #[.val (.int i0), .val (.int i1), .val (.int i2), .val (.int i3), .val (.int ((i3 &&& (3 : Int32)) % (3 : Int32))), .val (.int ((((i3.toUInt32 >>> ((2 : Int32) &&& 31).toUInt32).toInt32) &&& (3 : Int32)) % (3 : Int32))), .unset, .unset, .unset, .unset, .unset]) rfl ?_
    refine XS.iloadN X0.here hx rfl (hb hby at_16) rfl ?_
    show Steps p.tables e below (s₁.setTop (mkF m 17 #[.val (.int i0), .val (.int i1), .val (.int i2), .val (.int i3), .val (.int ((i3 &&& (3 : Int32)) % (3 : Int32))), .val (.int ((((i3.toUInt32 >>> ((2 : Int32) &&& 31).toUInt32).toInt32) &&& (3 : Int32)) % (3 : Int32))), .unset, .unset, .unset, .unset, .unset] [(.int i3)])) _
    refine XS.iconst X0.here hx rfl (hb hby at_17) ?_
    show Steps p.tables e below (s₁.setTop (mkF m 18 #[.val (.int i0), .val (.int i1), .val (.int i2), .val (.int i3), .val (.int ((i3 &&& (3 : Int32)) % (3 : Int32))), .val (.int ((((i3.toUInt32 >>> ((2 : Int32) &&& 31).toUInt32).toInt32) &&& (3 : Int32)) % (3 : Int32))), .unset, .unset, .unset, .unset, .unset] [(.int 4), (.int i3)])) _
    refine XS.iushr X0.here hx rfl (hb hby at_18) rfl ?_
    refine XS.iconst X0.here hx rfl (hb hby at_19) ?_
    show Steps p.tables e below (s₁.setTop (mkF m 20 #[.val (.int i0), .val (.int i1), .val (.int i2), .val (.int i3), .val (.int ((i3 &&& (3 : Int32)) % (3 : Int32))), .val (.int ((((i3.toUInt32 >>> ((2 : Int32) &&& 31).toUInt32).toInt32) &&& (3 : Int32)) % (3 : Int32))), .unset, .unset, .unset, .unset, .unset] [(.int 3), (.int ((i3.toUInt32 >>> ((4 : Int32) &&& 31).toUInt32).toInt32))])) _
    refine XS.iand X0.here hx rfl (hb hby at_20) rfl ?_
    show Steps p.tables e below (s₁.setTop (mkF m 21 #[.val (.int i0), .val (.int i1), .val (.int i2), .val (.int i3), .val (.int ((i3 &&& (3 : Int32)) % (3 : Int32))), .val (.int ((((i3.toUInt32 >>> ((2 : Int32) &&& 31).toUInt32).toInt32) &&& (3 : Int32)) % (3 : Int32))), .unset, .unset, .unset, .unset, .unset] [(.int (((i3.toUInt32 >>> ((4 : Int32) &&& 31).toUInt32).toInt32) &&& (3 : Int32)))])) _
    refine XS.iconst X0.here hx rfl (hb hby at_21) ?_
    show Steps p.tables e below (s₁.setTop (mkF m 22 #[.val (.int i0), .val (.int i1), .val (.int i2), .val (.int i3), .val (.int ((i3 &&& (3 : Int32)) % (3 : Int32))), .val (.int ((((i3.toUInt32 >>> ((2 : Int32) &&& 31).toUInt32).toInt32) &&& (3 : Int32)) % (3 : Int32))), .unset, .unset, .unset, .unset, .unset] [(.int 3), (.int (((i3.toUInt32 >>> ((4 : Int32) &&& 31).toUInt32).toInt32) &&& (3 : Int32)))])) _
    refine Jvm.RoadKit.iremM X0 hx rfl (hb hby at_22) rfl (by decide) ?_
    refine XS.istore X0.here hx rfl (hb hby at_23) rfl (l' := #[.val (.int i0), .val (.int i1), .val (.int i2), .val (.int i3), .val (.int ((i3 &&& (3 : Int32)) % (3 : Int32))), .val (.int ((((i3.toUInt32 >>> ((2 : Int32) &&& 31).toUInt32).toInt32) &&& (3 : Int32)) % (3 : Int32))), .val (.int ((((i3.toUInt32 >>> ((4 : Int32) &&& 31).toUInt32).toInt32) &&& (3 : Int32)) % (3 : Int32))), .unset, .unset, .unset, .unset]) rfl ?_
    exact kk)
  refine cps (A := ∃ (ga : Addr) (va : Addr) (ka : ClassId) (zA : Int32) (vA : List Value) (xA : List Int32) (T : State) (Lq : List Loc), ∃ (vq : Vm) (kq : Nat), s.Since vq kq ∧ kq ≤ T.heap.size ∧ Z.Warmed39 (s.setVm vq).vm ∧ (s.setVm vq).vm.findClass "com/example/ledgerline/ledgerline/KeyToStringPinLaw" = some m.cls ∧ Emp Z T.heap vq ∧ Stand p l e room_1 (s.setVm vq) m #[(.int i0), (.int i1), (.int i2), (.int i3)] below meth c T Lq 8 24 ∧ Fr n0 Lq ∧ Keep h0 T.heap [] ∧ (∀ tz_, Steps p.tables e below (T.setTop (mkF m 31 #[.val (.int i0), .val (.int i1), .val (.int i2), .val (.int i3), .val (.int ((i3 &&& (3 : Int32)) % (3 : Int32))), .val (.int ((((i3.toUInt32 >>> ((2 : Int32) &&& 31).toUInt32).toInt32) &&& (3 : Int32)) % (3 : Int32))), .val (.int ((((i3.toUInt32 >>> ((4 : Int32) &&& 31).toUInt32).toInt32) &&& (3 : Int32)) % (3 : Int32))), .unset, .unset, .unset, .unset] [(.ref ga)])) tz_ → Steps p.tables e below (s₁.setTop (entryFrame m #[(.int i0), (.int i1), (.int i2), (.int i3)] maxLocals)) tz_) ∧ (h0.size ≤ ga) ∧ (Exa Z T.heap ga "java/lang/String") ∧ (Fld Z T.heap ga "java/lang/String" "coder" "B" (.int 0)) ∧ (Fld Z T.heap ga "java/lang/String" "value" "[B" (.ref va)) ∧ (Arv Z T.heap va ka .byte zA vA (.int 0)) ∧ (Ln zA vA 2) ∧ (zA = ((i3 &&& (3 : Int32)) % (3 : Int32))) ∧ (vA = xA.map Value.int)) (fun tail32 => ?_) ?_
  · skip
    have pre33 : ∀ tz_, Steps p.tables e below (s₁.setTop (mkF m 28 #[.val (.int i0), .val (.int i1), .val (.int i2), .val (.int i3), .val (.int ((i3 &&& (3 : Int32)) % (3 : Int32))), .val (.int ((((i3.toUInt32 >>> ((2 : Int32) &&& 31).toUInt32).toInt32) &&& (3 : Int32)) % (3 : Int32))), .val (.int ((((i3.toUInt32 >>> ((4 : Int32) &&& 31).toUInt32).toInt32) &&& (3 : Int32)) % (3 : Int32))), .unset, .unset, .unset, .unset] [(.int ((i3 &&& (3 : Int32)) % (3 : Int32))), (.int i0)])) tz_ → Steps p.tables e below (s₁.setTop (entryFrame m #[(.int i0), (.int i1), (.int i2), (.int i3)] maxLocals)) tz_ := fun tz_ kk => pre31 tz_ (by
      show Steps p.tables e below (s₁.setTop (mkF m 25 #[.val (.int i0), .val (.int i1), .val (.int i2), .val (.int i3), .val (.int ((i3 &&& (3 : Int32)) % (3 : Int32))), .val (.int ((((i3.toUInt32 >>> ((2 : Int32) &&& 31).toUInt32).toInt32) &&& (3 : Int32)) % (3 : Int32))), .val (.int ((((i3.toUInt32 >>> ((4 : Int32) &&& 31).toUInt32).toInt32) &&& (3 : Int32)) % (3 : Int32))), .unset, .unset, .unset, .unset] [])) _
      refine XS.iloadN X0.here hx rfl (hb hby at_25) rfl ?_
      show Steps p.tables e below (s₁.setTop (mkF m 26 #[.val (.int i0), .val (.int i1), .val (.int i2), .val (.int i3), .val (.int ((i3 &&& (3 : Int32)) % (3 : Int32))), .val (.int ((((i3.toUInt32 >>> ((2 : Int32) &&& 31).toUInt32).toInt32) &&& (3 : Int32)) % (3 : Int32))), .val (.int ((((i3.toUInt32 >>> ((4 : Int32) &&& 31).toUInt32).toInt32) &&& (3 : Int32)) % (3 : Int32))), .unset, .unset, .unset, .unset] [(.int i0)])) _
      refine XS.iload X0.here hx rfl (hb hby at_26) rfl ?_
      exact kk)
    rcases (own_r3 i3) with hk34 | hk34 | hk34
    · skip
      have pre35 : ∀ tz_, Steps p.tables e below (s₁.setTop (mkF m 28 #[.val (.int i0), .val (.int i1), .val (.int i2), .val (.int i3), .val (.int ((i3 &&& (3 : Int32)) % (3 : Int32))), .val (.int ((((i3.toUInt32 >>> ((2 : Int32) &&& 31).toUInt32).toInt32) &&& (3 : Int32)) % (3 : Int32))), .val (.int ((((i3.toUInt32 >>> ((4 : Int32) &&& 31).toUInt32).toInt32) &&& (3 : Int32)) % (3 : Int32))), .unset, .unset, .unset, .unset] [(.int 0), (.int i0)])) tz_ → Steps p.tables e below (s₁.setTop (entryFrame m #[(.int i0), (.int i1), (.int i2), (.int i3)] maxLocals)) tz_ := fun tz_ kk => pre33 tz_ (by rw [hk34] at kk ⊢; exact kk)
      have pre36 : ∀ tz_, Steps p.tables e below (s₁.setTop (mkF m 28 #[.val (.int i0), .val (.int i1), .val (.int i2), .val (.int i3), .val (.int ((i3 &&& (3 : Int32)) % (3 : Int32))), .val (.int ((((i3.toUInt32 >>> ((2 : Int32) &&& 31).toUInt32).toInt32) &&& (3 : Int32)) % (3 : Int32))), .val (.int ((((i3.toUInt32 >>> ((4 : Int32) &&& 31).toUInt32).toInt32) &&& (3 : Int32)) % (3 : Int32))), .unset, .unset, .unset, .unset] [(.int 0), (.int i0)])) tz_ → Steps p.tables e below (s₁.setTop (entryFrame m #[(.int i0), (.int i1), (.int i2), (.int i3)] maxLocals)) tz_ := fun tz_ kk => pre35 tz_ (by
        show Steps p.tables e below (s₁.setTop (mkF m 28 #[.val (.int i0), .val (.int i1), .val (.int i2), .val (.int i3), .val (.int ((i3 &&& (3 : Int32)) % (3 : Int32))), .val (.int ((((i3.toUInt32 >>> ((2 : Int32) &&& 31).toUInt32).toInt32) &&& (3 : Int32)) % (3 : Int32))), .val (.int ((((i3.toUInt32 >>> ((4 : Int32) &&& 31).toUInt32).toInt32) &&& (3 : Int32)) % (3 : Int32))), .unset, .unset, .unset, .unset] [(.int 0), (.int i0)])) _
        exact kk)
      -- pc 28: KeyToStringPinLaw.mk
      obtain ⟨_, _, ⟨T37, L37, k37, n37⟩, -, X37, hS37, hg37, ⟨Lc37, hQ37, l37, y37, z37⟩, st37⟩ := Jvm.RoadKit.callSS X0 hx (y := (⟨"com/example/ledgerline/ledgerline/KeyToStringPinLaw", "mk", "(II)Ljava/lang/String;"⟩ : MethodName)) hown (mvT hZ (hw _ (mg (i := 0) rfl))) (mvT hZ (hw _ (mg (i := 1) rfl))) (mvT hZ (hw _ (mg (i := 2) rfl))) (mvT hZ (hw _ (mg (i := 3) rfl))) (by decide) (backOfSV (W := 0) (mk0 l Z av0 hw [] i0 h0 n0 (own_le p0_O) p0_O (hheld : Jvm.Lit.constHeld Z "java/lang/String" 7) (hcw : Jvm.Lit.compactW.before av0 Z = true)) hZ (hw _ (mg (i := 3) rfl)) (hw _ (mg (i := 2) rfl)) (by decide) (by decide)) (g := (mkF m 28 #[.val (.int i0), .val (.int i1), .val (.int i2), .val (.int i3), .val (.int ((i3 &&& (3 : Int32)) % (3 : Int32))), .val (.int ((((i3.toUInt32 >>> ((2 : Int32) &&& 31).toUInt32).toInt32) &&& (3 : Int32)) % (3 : Int32))), .val (.int ((((i3.toUInt32 >>> ((4 : Int32) &&& 31).toUInt32).toInt32) &&& (3 : Int32)) % (3 : Int32))), .unset, .unset, .unset, .unset] [(.int 0), (.int i0)])) rfl (by rw [hml]; rfl) (argsL := [(.int i0), (.int 0)]) (rest := []) (lenOf pd_0 rfl) rfl (by show 2 * 0 + _ ≤ _; exact Nat.le_of_eq rfl) (hb hby at_28) (fun vmx hWx => ⟨rfl, e0, (by decide : 0 + 4 ≤ _), (by decide : 0 + 8 ≤ _), (hV0.warm hWx)⟩)
      dsimp only [Pt.U, Pt.locs, Pt.cells, Pt.slots] at X37 l37 y37 z37 st37 hQ37 hS37 hg37
      subst l37 y37 z37
      obtain ⟨X37, hS37, hZ, hown⟩ := rebS (s := s) (vm0 := s.vm) hS0 (Nat.zero_le _) X37 hS37 hg37 hZ hown
      obtain ⟨b_37, vb_37, kb_37, rv37, Nq37, Kq37, u37_0, u37_1, u37_2, u37_3, u37_4, hV37⟩ := hQ37
      subst rv37
      have N37 := Fr.app N0 Nq37
      have g_b_37 : n0 ≤ b_37 := Nat.le_trans (own_le p0_O) u37_0
      have sz_b_37 : h0.size ≤ b_37 := Nat.le_trans K0.1 u37_0
      have K38 := K0.trans Kq37 all0
      have O38 := p0_O.keep Kq37 all0
      have hk37 : T37.heap.size ≤ T37.heap.size := Nat.le_refl _
      have pre39 : ∀ tz_, Steps p.tables e below (T37.setTop (mkF m 31 #[.val (.int i0), .val (.int i1), .val (.int i2), .val (.int i3), .val (.int ((i3 &&& (3 : Int32)) % (3 : Int32))), .val (.int ((((i3.toUInt32 >>> ((2 : Int32) &&& 31).toUInt32).toInt32) &&& (3 : Int32)) % (3 : Int32))), .val (.int ((((i3.toUInt32 >>> ((4 : Int32) &&& 31).toUInt32).toInt32) &&& (3 : Int32)) % (3 : Int32))), .unset, .unset, .unset, .unset] [(.ref b_37)])) tz_ → Steps p.tables e below (s₁.setTop (entryFrame m #[(.int i0), (.int i1), (.int i2), (.int i3)] maxLocals)) tz_ := fun tz_ kk => pre36 tz_ (by
        refine st37.trans ?_
        exact kk)
      exact tail32 ⟨b_37, vb_37, kb_37, (0 : Int32), [], [], T37, _, T37.vm, _, hS37, hk37, hZ, hown, hV37, X37.more (by decide) (by decide), N37, ((Keep.refl h0 []).trans Kq37 all0), pre39, u37_0, u37_1, u37_2, u37_3, u37_4, ⟨by decide, rfl, Nat.le_of_ble_eq_true rfl⟩, hk34.symm, rfl⟩
    · skip
      have pre40 : ∀ tz_, Steps p.tables e below (s₁.setTop (mkF m 28 #[.val (.int i0), .val (.int i1), .val (.int i2), .val (.int i3), .val (.int ((i3 &&& (3 : Int32)) % (3 : Int32))), .val (.int ((((i3.toUInt32 >>> ((2 : Int32) &&& 31).toUInt32).toInt32) &&& (3 : Int32)) % (3 : Int32))), .val (.int ((((i3.toUInt32 >>> ((4 : Int32) &&& 31).toUInt32).toInt32) &&& (3 : Int32)) % (3 : Int32))), .unset, .unset, .unset, .unset] [(.int 1), (.int i0)])) tz_ → Steps p.tables e below (s₁.setTop (entryFrame m #[(.int i0), (.int i1), (.int i2), (.int i3)] maxLocals)) tz_ := fun tz_ kk => pre33 tz_ (by rw [hk34] at kk ⊢; exact kk)
      have pre41 : ∀ tz_, Steps p.tables e below (s₁.setTop (mkF m 28 #[.val (.int i0), .val (.int i1), .val (.int i2), .val (.int i3), .val (.int ((i3 &&& (3 : Int32)) % (3 : Int32))), .val (.int ((((i3.toUInt32 >>> ((2 : Int32) &&& 31).toUInt32).toInt32) &&& (3 : Int32)) % (3 : Int32))), .val (.int ((((i3.toUInt32 >>> ((4 : Int32) &&& 31).toUInt32).toInt32) &&& (3 : Int32)) % (3 : Int32))), .unset, .unset, .unset, .unset] [(.int 1), (.int i0)])) tz_ → Steps p.tables e below (s₁.setTop (entryFrame m #[(.int i0), (.int i1), (.int i2), (.int i3)] maxLocals)) tz_ := fun tz_ kk => pre40 tz_ (by
        show Steps p.tables e below (s₁.setTop (mkF m 28 #[.val (.int i0), .val (.int i1), .val (.int i2), .val (.int i3), .val (.int ((i3 &&& (3 : Int32)) % (3 : Int32))), .val (.int ((((i3.toUInt32 >>> ((2 : Int32) &&& 31).toUInt32).toInt32) &&& (3 : Int32)) % (3 : Int32))), .val (.int ((((i3.toUInt32 >>> ((4 : Int32) &&& 31).toUInt32).toInt32) &&& (3 : Int32)) % (3 : Int32))), .unset, .unset, .unset, .unset] [(.int 1), (.int i0)])) _
        exact kk)
      -- pc 28: KeyToStringPinLaw.mk
      obtain ⟨_, _, ⟨T42, L42, k42, n42⟩, -, X42, ⟨Lc42, hQ42, l42, y42, z42⟩, st42⟩ := Jvm.LawKit.callS X0 hx (y := (⟨"com/example/ledgerline/ledgerline/KeyToStringPinLaw", "mk", "(II)Ljava/lang/String;"⟩ : MethodName)) hown (mvT hZ (hw _ (mg (i := 0) rfl))) (mvT hZ (hw _ (mg (i := 1) rfl))) (mvT hZ (hw _ (mg (i := 2) rfl))) (mvT hZ (hw _ (mg (i := 3) rfl))) (by decide) (backOf (W := 0) (mk1 l Z av0 hw [] i0 cs h0 n0 (own_le p0_O) p0_O p1_S (hcs : ¬ (cs = (0 : Int32)))) hZ (hw _ (mg (i := 3) rfl)) (hw _ (mg (i := 2) rfl)) (by decide) (by decide)) (g := (mkF m 28 #[.val (.int i0), .val (.int i1), .val (.int i2), .val (.int i3), .val (.int ((i3 &&& (3 : Int32)) % (3 : Int32))), .val (.int ((((i3.toUInt32 >>> ((2 : Int32) &&& 31).toUInt32).toInt32) &&& (3 : Int32)) % (3 : Int32))), .val (.int ((((i3.toUInt32 >>> ((4 : Int32) &&& 31).toUInt32).toInt32) &&& (3 : Int32)) % (3 : Int32))), .unset, .unset, .unset, .unset] [(.int 1), (.int i0)])) rfl (by rw [hml]; rfl) (argsL := [(.int i0), (.int 1)]) (rest := []) (lenOf pd_0 rfl) rfl (by show 2 * 0 + _ ≤ _; exact Nat.le_of_eq rfl) (hb hby at_28) (fun vmx hWx => ⟨rfl, e0, (by decide : 0 + 2 ≤ _), (by decide : 0 + 5 ≤ _)⟩)
      dsimp only [Pt.U, Pt.locs, Pt.cells, Pt.slots] at X42 l42 y42 z42 st42 hQ42
      subst l42 y42 z42
      obtain ⟨b_42, vb_42, kb_42, rv42, Nq42, Kq42, u42_0, u42_1, u42_2, u42_3, u42_4⟩ := hQ42
      subst rv42
      have N42 := Fr.app N0 Nq42
      have g_b_42 : n0 ≤ b_42 := Nat.le_trans (own_le p0_O) u42_0
      have sz_b_42 : h0.size ≤ b_42 := Nat.le_trans K0.1 u42_0
      have K43 := K0.trans Kq42 all0
      have O43 := p0_O.keep Kq42 all0
      have pre44 : ∀ tz_, Steps p.tables e below (T42.setTop (mkF m 31 #[.val (.int i0), .val (.int i1), .val (.int i2), .val (.int i3), .val (.int ((i3 &&& (3 : Int32)) % (3 : Int32))), .val (.int ((((i3.toUInt32 >>> ((2 : Int32) &&& 31).toUInt32).toInt32) &&& (3 : Int32)) % (3 : Int32))), .val (.int ((((i3.toUInt32 >>> ((4 : Int32) &&& 31).toUInt32).toInt32) &&& (3 : Int32)) % (3 : Int32))), .unset, .unset, .unset, .unset] [(.ref b_42)])) tz_ → Steps p.tables e below (s₁.setTop (entryFrame m #[(.int i0), (.int i1), (.int i2), (.int i3)] maxLocals)) tz_ := fun tz_ kk => pre41 tz_ (by
        refine st42 _ ?_
        exact kk)
      exact tail32 ⟨b_42, vb_42, kb_42, (1 : Int32), [(.int ((i0 &&& (255 : Int32)).toInt8.toInt32))], [((i0 &&& (255 : Int32)).toInt8.toInt32)], T42, _, s.vm, _, hS0, (Nat.zero_le _), hZ, hown, (hV0.keep Kq42), X42.more (by decide) (by decide), N42, ((Keep.refl h0 []).trans Kq42 all0), pre44, u42_0, u42_1, u42_2, u42_3, u42_4, ⟨by decide, rfl, Nat.le_of_ble_eq_true rfl⟩, hk34.symm, rfl⟩
    · skip
      have pre45 : ∀ tz_, Steps p.tables e below (s₁.setTop (mkF m 28 #[.val (.int i0), .val (.int i1), .val (.int i2), .val (.int i3), .val (.int ((i3 &&& (3 : Int32)) % (3 : Int32))), .val (.int ((((i3.toUInt32 >>> ((2 : Int32) &&& 31).toUInt32).toInt32) &&& (3 : Int32)) % (3 : Int32))), .val (.int ((((i3.toUInt32 >>> ((4 : Int32) &&& 31).toUInt32).toInt32) &&& (3 : Int32)) % (3 : Int32))), .unset, .unset, .unset, .unset] [(.int 2), (.int i0)])) tz_ → Steps p.tables e below (s₁.setTop (entryFrame m #[(.int i0), (.int i1), (.int i2), (.int i3)] maxLocals)) tz_ := fun tz_ kk => pre33 tz_ (by rw [hk34] at kk ⊢; exact kk)
      have pre46 : ∀ tz_, Steps p.tables e below (s₁.setTop (mkF m 28 #[.val (.int i0), .val (.int i1), .val (.int i2), .val (.int i3), .val (.int ((i3 &&& (3 : Int32)) % (3 : Int32))), .val (.int ((((i3.toUInt32 >>> ((2 : Int32) &&& 31).toUInt32).toInt32) &&& (3 : Int32)) % (3 : Int32))), .val (.int ((((i3.toUInt32 >>> ((4 : Int32) &&& 31).toUInt32).toInt32) &&& (3 : Int32)) % (3 : Int32))), .unset, .unset, .unset, .unset] [(.int 2), (.int i0)])) tz_ → Steps p.tables e below (s₁.setTop (entryFrame m #[(.int i0), (.int i1), (.int i2), (.int i3)] maxLocals)) tz_ := fun tz_ kk => pre45 tz_ (by
        show Steps p.tables e below (s₁.setTop (mkF m 28 #[.val (.int i0), .val (.int i1), .val (.int i2), .val (.int i3), .val (.int ((i3 &&& (3 : Int32)) % (3 : Int32))), .val (.int ((((i3.toUInt32 >>> ((2 : Int32) &&& 31).toUInt32).toInt32) &&& (3 : Int32)) % (3 : Int32))), .val (.int ((((i3.toUInt32 >>> ((4 : Int32) &&& 31).toUInt32).toInt32) &&& (3 : Int32)) % (3 : Int32))), .unset, .unset, .unset, .unset] [(.int 2), (.int i0)])) _
        exact kk)
      -- pc 28: KeyToStringPinLaw.mk
      obtain ⟨_, _, ⟨T47, L47, k47, n47⟩, -, X47, ⟨Lc47, hQ47, l47, y47, z47⟩, st47⟩ := Jvm.LawKit.callS X0 hx (y := (⟨"com/example/ledgerline/ledgerline/KeyToStringPinLaw", "mk", "(II)Ljava/lang/String;"⟩ : MethodName)) hown (mvT hZ (hw _ (mg (i := 0) rfl))) (mvT hZ (hw _ (mg (i := 1) rfl))) (mvT hZ (hw _ (mg (i := 2) rfl))) (mvT hZ (hw _ (mg (i := 3) rfl))) (by decide) (backOf (W := 0) (mk2 l Z av0 hw [] i0 cs h0 n0 (own_le p0_O) p0_O p1_S (hcs : ¬ (cs = (0 : Int32)))) hZ (hw _ (mg (i := 3) rfl)) (hw _ (mg (i := 2) rfl)) (by decide) (by decide)) (g := (mkF m 28 #[.val (.int i0), .val (.int i1), .val (.int i2), .val (.int i3), .val (.int ((i3 &&& (3 : Int32)) % (3 : Int32))), .val (.int ((((i3.toUInt32 >>> ((2 : Int32) &&& 31).toUInt32).toInt32) &&& (3 : Int32)) % (3 : Int32))), .val (.int ((((i3.toUInt32 >>> ((4 : Int32) &&& 31).toUInt32).toInt32) &&& (3 : Int32)) % (3 : Int32))), .unset, .unset, .unset, .unset] [(.int 2), (.int i0)])) rfl (by rw [hml]; rfl) (argsL := [(.int i0), (.int 2)]) (rest := []) (lenOf pd_0 rfl) rfl (by show 2 * 0 + _ ≤ _; exact Nat.le_of_eq rfl) (hb hby at_28) (fun vmx hWx => ⟨rfl, e0, (by decide : 0 + 3 ≤ _), (by decide : 0 + 8 ≤ _)⟩)
      dsimp only [Pt.U, Pt.locs, Pt.cells, Pt.slots] at X47 l47 y47 z47 st47 hQ47
      subst l47 y47 z47
      obtain ⟨b_47, vb_47, kb_47, rv47, Nq47, Kq47, u47_0, u47_1, u47_2, u47_3, u47_4⟩ := hQ47
      subst rv47
      have N47 := Fr.app N0 Nq47
      have g_b_47 : n0 ≤ b_47 := Nat.le_trans (own_le p0_O) u47_0
      have sz_b_47 : h0.size ≤ b_47 := Nat.le_trans K0.1 u47_0
      have K48 := K0.trans Kq47 all0
      have O48 := p0_O.keep Kq47 all0
      have pre49 : ∀ tz_, Steps p.tables e below (T47.setTop (mkF m 31 #[.val (.int i0), .val (.int i1), .val (.int i2), .val (.int i3), .val (.int ((i3 &&& (3 : Int32)) % (3 : Int32))), .val (.int ((((i3.toUInt32 >>> ((2 : Int32) &&& 31).toUInt32).toInt32) &&& (3 : Int32)) % (3 : Int32))), .val (.int ((((i3.toUInt32 >>> ((4 : Int32) &&& 31).toUInt32).toInt32) &&& (3 : Int32)) % (3 : Int32))), .unset, .unset, .unset, .unset] [(.ref b_47)])) tz_ → Steps p.tables e below (s₁.setTop (entryFrame m #[(.int i0), (.int i1), (.int i2), (.int i3)] maxLocals)) tz_ := fun tz_ kk => pre46 tz_ (by
        refine st47 _ ?_
        exact kk)
      exact tail32 ⟨b_47, vb_47, kb_47, (2 : Int32), [(.int ((i0 &&& (255 : Int32)).toInt8.toInt32)), (.int ((((i0.toUInt32 >>> ((8 : Int32) &&& 31).toUInt32).toInt32) &&& (255 : Int32)).toInt8.toInt32))], [((i0 &&& (255 : Int32)).toInt8.toInt32), ((((i0.toUInt32 >>> ((8 : Int32) &&& 31).toUInt32).toInt32) &&& (255 : Int32)).toInt8.toInt32)], T47, _, s.vm, _, hS0, (Nat.zero_le _), hZ, hown, (hV0.keep Kq47), X47.more (by decide) (by decide), N47, ((Keep.refl h0 []).trans Kq47 all0), pre49, u47_0, u47_1, u47_2, u47_3, u47_4, ⟨by decide, rfl, Nat.le_of_ble_eq_true rfl⟩, hk34.symm, rfl⟩
  · skip
    rintro ⟨ga, va, ka, zA, vA, xA, T32, Lq32, vq32, kq32, hS32, hk32, hZ, hown, hV32, X32, N32, Kj32, pre32, j32_0, j32_1, j32_2, j32_3, j32_4, hA, hzA, hxA⟩
    have g_ga : n0 ≤ ga := Nat.le_trans (own_le p0_O) j32_0
    have sz_ga : h0.size ≤ ga := Nat.le_trans K0.1 j32_0
    have K50 := K0.trans Kj32 all0
    have O50 := p0_O.keep Kj32 all0
    have pre51 : ∀ tz_, Steps p.tables e below (T32.setTop (mkF m 33 #[.val (.int i0), .val (.int i1), .val (.int i2), .val (.int i3), .val (.int ((i3 &&& (3 : Int32)) % (3 : Int32))), .val (.int ((((i3.toUInt32 >>> ((2 : Int32) &&& 31).toUInt32).toInt32) &&& (3 : Int32)) % (3 : Int32))), .val (.int ((((i3.toUInt32 >>> ((4 : Int32) &&& 31).toUInt32).toInt32) &&& (3 : Int32)) % (3 : Int32))), .val (.ref ga), .unset, .unset, .unset] [])) tz_ → Steps p.tables e below (s₁.setTop (entryFrame m #[(.int i0), (.int i1), (.int i2), (.int i3)] maxLocals)) tz_ := fun tz_ kk => pre32 tz_ (by
      show Steps p.tables e below (T32.setTop (mkF m 31 #[.val (.int i0), .val (.int i1), .val (.int i2), .val (.int i3), .val (.int ((i3 &&& (3 : Int32)) % (3 : Int32))), .val (.int ((((i3.toUInt32 >>> ((2 : Int32) &&& 31).toUInt32).toInt32) &&& (3 : Int32)) % (3 : Int32))), .val (.int ((((i3.toUInt32 >>> ((4 : Int32) &&& 31).toUInt32).toInt32) &&& (3 : Int32)) % (3 : Int32))), .unset, .unset, .unset, .unset] [(.ref ga)])) _
      refine XS.astore X32.here hx rfl (hb hby at_31) rfl rfl (l' := #[.val (.int i0), .val (.int i1), .val (.int i2), .val (.int i3), .val (.int ((i3 &&& (3 : Int32)) % (3 : Int32))), .val (.int ((((i3.toUInt32 >>> ((2 : Int32) &&& 31).toUInt32).toInt32) &&& (3 : Int32)) % (3 : Int32))), .val (.int ((((i3.toUInt32 >>> ((4 : Int32) &&& 31).toUInt32).toInt32) &&& (3 : Int32)) % (3 : Int32))), .val (.ref ga), .unset, .unset, .unset]) rfl ?_
      exact kk)
    refine cps (A := ∃ (gb : Addr) (vb : Addr) (kb : ClassId) (zB : Int32) (vB : List Value) (xB : List Int32) (T : State) (Lq : List Loc), ∃ (vq : Vm) (kq : Nat), s.Since vq kq ∧ kq ≤ T.heap.size ∧ Z.Warmed39 (s.setVm vq).vm ∧ (s.setVm vq).vm.findClass "com/example/ledgerline/ledgerline/KeyToStringPinLaw" = some m.cls ∧ Emp Z T.heap vq ∧ Stand p l e room_1 (s.setVm vq) m #[(.int i0), (.int i1), (.int i2), (.int i3)] below meth c T Lq 16 48 ∧ Fr n0 Lq ∧ Keep T32.heap T.heap [] ∧ (∀ tz_, Steps p.tables e below (T.setTop (mkF m 39 #[.val (.int i0), .val (.int i1), .val (.int i2), .val (.int i3), .val (.int ((i3 &&& (3 : Int32)) % (3 : Int32))), .val (.int ((((i3.toUInt32 >>> ((2 : Int32) &&& 31).toUInt32).toInt32) &&& (3 : Int32)) % (3 : Int32))), .val (.int ((((i3.toUInt32 >>> ((4 : Int32) &&& 31).toUInt32).toInt32) &&& (3 : Int32)) % (3 : Int32))), .val (.ref ga), .unset, .unset, .unset] [(.ref gb)])) tz_ → Steps p.tables e below (s₁.setTop (entryFrame m #[(.int i0), (.int i1), (.int i2), (.int i3)] maxLocals)) tz_) ∧ (T32.heap.size ≤ gb) ∧ (Exa Z T.heap gb "java/lang/String") ∧ (Fld Z T.heap gb "java/lang/String" "coder" "B" (.int 0)) ∧ (Fld Z T.heap gb "java/lang/String" "value" "[B" (.ref vb)) ∧ (Arv Z T.heap vb kb .byte zB vB (.int 0)) ∧ (Ln zB vB 2) ∧ (zB = ((((i3.toUInt32 >>> ((2 : Int32) &&& 31).toUInt32).toInt32) &&& (3 : Int32)) % (3 : Int32))) ∧ (vB = xB.map Value.int)) (fun tail52 => ?_) ?_
    · skip
      have pre53 : ∀ tz_, Steps p.tables e below (T32.setTop (mkF m 36 #[.val (.int i0), .val (.int i1), .val (.int i2), .val (.int i3), .val (.int ((i3 &&& (3 : Int32)) % (3 : Int32))), .val (.int ((((i3.toUInt32 >>> ((2 : Int32) &&& 31).toUInt32).toInt32) &&& (3 : Int32)) % (3 : Int32))), .val (.int ((((i3.toUInt32 >>> ((4 : Int32) &&& 31).toUInt32).toInt32) &&& (3 : Int32)) % (3 : Int32))), .val (.ref ga), .unset, .unset, .unset] [(.int ((((i3.toUInt32 >>> ((2 : Int32) &&& 31).toUInt32).toInt32) &&& (3 : Int32)) % (3 : Int32))), (.int i1)])) tz_ → Steps p.tables e below (s₁.setTop (entryFrame m #[(.int i0), (.int i1), (.int i2), (.int i3)] maxLocals)) tz_ := fun tz_ kk => pre51 tz_ (by
        show Steps p.tables e below (T32.setTop (mkF m 33 #[.val (.int i0), .val (.int i1), .val (.int i2), .val (.int i3), .val (.int ((i3 &&& (3 : Int32)) % (3 : Int32))), .val (.int ((((i3.toUInt32 >>> ((2 : Int32) &&& 31).toUInt32).toInt32) &&& (3 : Int32)) % (3 : Int32))), .val (.int ((((i3.toUInt32 >>> ((4 : Int32) &&& 31).toUInt32).toInt32) &&& (3 : Int32)) % (3 : Int32))), .val (.ref ga), .unset, .unset, .unset] [])) _
        refine XS.iloadN X32.here hx rfl (hb hby at_33) rfl ?_
        refine XS.iload X32.here hx rfl (hb hby at_34) rfl ?_
        exact kk)
      rcases (own_r3 ((i3.toUInt32 >>> ((2 : Int32) &&& 31).toUInt32).toInt32)) with hk54 | hk54 | hk54
      · skip
        have pre55 : ∀ tz_, Steps p.tables e below (T32.setTop (mkF m 36 #[.val (.int i0), .val (.int i1), .val (.int i2), .val (.int i3), .val (.int ((i3 &&& (3 : Int32)) % (3 : Int32))), .val (.int ((((i3.toUInt32 >>> ((2 : Int32) &&& 31).toUInt32).toInt32) &&& (3 : Int32)) % (3 : Int32))), .val (.int ((((i3.toUInt32 >>> ((4 : Int32) &&& 31).toUInt32).toInt32) &&& (3 : Int32)) % (3 : Int32))), .val (.ref ga), .unset, .unset, .unset] [(.int 0), (.int i1)])) tz_ → Steps p.tables e below (s₁.setTop (entryFrame m #[(.int i0), (.int i1), (.int i2), (.int i3)] maxLocals)) tz_ := fun tz_ kk => pre53 tz_ (by rw [hk54] at kk ⊢; exact kk)
        have pre56 : ∀ tz_, Steps p.tables e below (T32.setTop (mkF m 36 #[.val (.int i0), .val (.int i1), .val (.int i2), .val (.int i3), .val (.int ((i3 &&& (3 : Int32)) % (3 : Int32))), .val (.int ((((i3.toUInt32 >>> ((2 : Int32) &&& 31).toUInt32).toInt32) &&& (3 : Int32)) % (3 : Int32))), .val (.int ((((i3.toUInt32 >>> ((4 : Int32) &&& 31).toUInt32).toInt32) &&& (3 : Int32)) % (3 : Int32))), .val (.ref ga), .unset, .unset, .unset] [(.int 0), (.int i1)])) tz_ → Steps p.tables e below (s₁.setTop (entryFrame m #[(.int i0), (.int i1), (.int i2), (.int i3)] maxLocals)) tz_ := fun tz_ kk => pre55 tz_ (by
          show Steps p.tables e below (T32.setTop (mkF m 36 #[.val (.int i0), .val (.int i1), .val (.int i2), .val (.int i3), .val (.int ((i3 &&& (3 : Int32)) % (3 : Int32))), .val (.int ((((i3.toUInt32 >>> ((2 : Int32) &&& 31).toUInt32).toInt32) &&& (3 : Int32)) % (3 : Int32))), .val (.int ((((i3.toUInt32 >>> ((4 : Int32) &&& 31).toUInt32).toInt32) &&& (3 : Int32)) % (3 : Int32))), .val (.ref ga), .unset, .unset, .unset] [(.int 0), (.int i1)])) _
          exact kk)
        -- pc 36: KeyToStringPinLaw.mk
        obtain ⟨_, _, ⟨T57, L57, k57, n57⟩, -, X57, hS57, hg57, ⟨Lc57, hQ57, l57, y57, z57⟩, st57⟩ := Jvm.RoadKit.callSS X32 hx (y := (⟨"com/example/ledgerline/ledgerline/KeyToStringPinLaw", "mk", "(II)Ljava/lang/String;"⟩ : MethodName)) hown (mvT hZ (hw _ (mg (i := 0) rfl))) (mvT hZ (hw _ (mg (i := 1) rfl))) (mvT hZ (hw _ (mg (i := 2) rfl))) (mvT hZ (hw _ (mg (i := 3) rfl))) (by decide) (backOfSV (W := 0) (mk0 l Z av0 hw [] i1 T32.heap n0 (own_le O50) O50 (hheld : Jvm.Lit.constHeld Z "java/lang/String" 7) (hcw : Jvm.Lit.compactW.before av0 Z = true)) hZ (hw _ (mg (i := 3) rfl)) (hw _ (mg (i := 2) rfl)) (by decide) (by decide)) (g := (mkF m 36 #[.val (.int i0), .val (.int i1), .val (.int i2), .val (.int i3), .val (.int ((i3 &&& (3 : Int32)) % (3 : Int32))), .val (.int ((((i3.toUInt32 >>> ((2 : Int32) &&& 31).toUInt32).toInt32) &&& (3 : Int32)) % (3 : Int32))), .val (.int ((((i3.toUInt32 >>> ((4 : Int32) &&& 31).toUInt32).toInt32) &&& (3 : Int32)) % (3 : Int32))), .val (.ref ga), .unset, .unset, .unset] [(.int 0), (.int i1)])) rfl (by rw [hml]; rfl) (argsL := [(.int i1), (.int 0)]) (rest := []) (lenOf pd_0 rfl) rfl (by show 2 * 0 + _ ≤ _; exact Nat.le_of_eq rfl) (hb hby at_36) (fun vmx hWx => ⟨rfl, rfl, (by decide : 8 + 4 ≤ _), (by decide : 24 + 8 ≤ _), (hV32.warm hWx)⟩)
        dsimp only [Pt.U, Pt.locs, Pt.cells, Pt.slots] at X57 l57 y57 z57 st57 hQ57 hS57 hg57
        subst l57 y57 z57
        obtain ⟨X57, hS57, hZ, hown⟩ := rebS (s := s) (vm0 := vq32) hS32 hk32 X57 hS57 hg57 hZ hown
        obtain ⟨b_57, vb_57, kb_57, rv57, Nq57, Kq57, u57_0, u57_1, u57_2, u57_3, u57_4, hV57⟩ := hQ57
        subst rv57
        have N57 := Fr.app N32 Nq57
        have g_b_57 : n0 ≤ b_57 := Nat.le_trans (own_le O50) u57_0
        have sz_b_57 : h0.size ≤ b_57 := Nat.le_trans K50.1 u57_0
        have K58 := K50.trans Kq57 all0
        have O58 := O50.keep Kq57 all0
        have hk57 : T57.heap.size ≤ T57.heap.size := Nat.le_refl _
        have pre59 : ∀ tz_, Steps p.tables e below (T57.setTop (mkF m 39 #[.val (.int i0), .val (.int i1), .val (.int i2), .val (.int i3), .val (.int ((i3 &&& (3 : Int32)) % (3 : Int32))), .val (.int ((((i3.toUInt32 >>> ((2 : Int32) &&& 31).toUInt32).toInt32) &&& (3 : Int32)) % (3 : Int32))), .val (.int ((((i3.toUInt32 >>> ((4 : Int32) &&& 31).toUInt32).toInt32) &&& (3 : Int32)) % (3 : Int32))), .val (.ref ga), .unset, .unset, .unset] [(.ref b_57)])) tz_ → Steps p.tables e below (s₁.setTop (entryFrame m #[(.int i0), (.int i1), (.int i2), (.int i3)] maxLocals)) tz_ := fun tz_ kk => pre56 tz_ (by
          refine st57.trans ?_
          exact kk)
        exact tail52 ⟨b_57, vb_57, kb_57, (0 : Int32), [], [], T57, _, T57.vm, _, hS57, hk57, hZ, hown, hV57, X57.more (by decide) (by decide), N57, ((Keep.refl T32.heap []).trans Kq57 all0), pre59, u57_0, u57_1, u57_2, u57_3, u57_4, ⟨by decide, rfl, Nat.le_of_ble_eq_true rfl⟩, hk54.symm, rfl⟩
      · skip
        have pre60 : ∀ tz_, Steps p.tables e below (T32.setTop (mkF m 36 #[.val (.int i0), .val (.int i1), .val (.int i2), .val (.int i3), .val (.int ((i3 &&& (3 : Int32)) % (3 : Int32))), .val (.int ((((i3.toUInt32 >>> ((2 : Int32) &&& 31).toUInt32).toInt32) &&& (3 : Int32)) % (3 : Int32))), .val (.int ((((i3.toUInt32 >>> ((4 : Int32) &&& 31).toUInt32).toInt32) &&& (3 : Int32)) % (3 : Int32))), .val (.ref ga), .unset, .unset, .unset] [(.int 1), (.int i1)])) tz_ → Steps p.tables e below (s₁.setTop (entryFrame m #[(.int i0), (.int i1), (.int i2), (.int i3)] maxLocals)) tz_ := fun tz_ kk => pre53 tz_ (by rw [hk54] at kk ⊢; exact kk)
        have pre61 : ∀ tz_, Steps p.tables e below (T32.setTop (mkF m 36 #[.val (.int i0), .val (.int i1), .val (.int i2), .val (.int i3), .val (.int ((i3 &&& (3 : Int32)) % (3 : Int32))), .val (.int ((((i3.toUInt32 >>> ((2 : Int32) &&& 31).toUInt32).toInt32) &&& (3 : Int32)) % (3 : Int32))), .val (.int ((((i3.toUInt32 >>> ((4 : Int32) &&& 31).toUInt32).toInt32) &&& (3 : Int32)) % (3 : Int32))), .val (.ref ga), .unset, .unset, .unset] [(.int 1), (.int i1)])) tz_ → Steps p.tables e below (s₁.setTop (entryFrame m #[(.int i0), (.int i1), (.int i2), (.int i3)] maxLocals)) tz_ := fun tz_ kk => pre60 tz_ (by
          show Steps p.tables e below (T32.setTop (mkF m 36 #[.val (.int i0), .val (.int i1), .val (.int i2), .val (.int i3), .val (.int ((i3 &&& (3 : Int32)) % (3 : Int32))), .val (.int ((((i3.toUInt32 >>> ((2 : Int32) &&& 31).toUInt32).toInt32) &&& (3 : Int32)) % (3 : Int32))), .val (.int ((((i3.toUInt32 >>> ((4 : Int32) &&& 31).toUInt32).toInt32) &&& (3 : Int32)) % (3 : Int32))), .val (.ref ga), .unset, .unset, .unset] [(.int 1), (.int i1)])) _
          exact kk)
        -- pc 36: KeyToStringPinLaw.mk
        obtain ⟨_, _, ⟨T62, L62, k62, n62⟩, -, X62, ⟨Lc62, hQ62, l62, y62, z62⟩, st62⟩ := Jvm.LawKit.callS X32 hx (y := (⟨"com/example/ledgerline/ledgerline/KeyToStringPinLaw", "mk", "(II)Ljava/lang/String;"⟩ : MethodName)) hown (mvT hZ (hw _ (mg (i := 0) rfl))) (mvT hZ (hw _ (mg (i := 1) rfl))) (mvT hZ (hw _ (mg (i := 2) rfl))) (mvT hZ (hw _ (mg (i := 3) rfl))) (by decide) (backOf (W := 0) (mk1 l Z av0 hw [] i1 cs T32.heap n0 (own_le O50) O50 p1_S (hcs : ¬ (cs = (0 : Int32)))) hZ (hw _ (mg (i := 3) rfl)) (hw _ (mg (i := 2) rfl)) (by decide) (by decide)) (g := (mkF m 36 #[.val (.int i0), .val (.int i1), .val (.int i2), .val (.int i3), .val (.int ((i3 &&& (3 : Int32)) % (3 : Int32))), .val (.int ((((i3.toUInt32 >>> ((2 : Int32) &&& 31).toUInt32).toInt32) &&& (3 : Int32)) % (3 : Int32))), .val (.int ((((i3.toUInt32 >>> ((4 : Int32) &&& 31).toUInt32).toInt32) &&& (3 : Int32)) % (3 : Int32))), .val (.ref ga), .unset, .unset, .unset] [(.int 1), (.int i1)])) rfl (by rw [hml]; rfl) (argsL := [(.int i1), (.int 1)]) (rest := []) (lenOf pd_0 rfl) rfl (by show 2 * 0 + _ ≤ _; exact Nat.le_of_eq rfl) (hb hby at_36) (fun vmx hWx => ⟨rfl, rfl, (by decide : 8 + 2 ≤ _), (by decide : 24 + 5 ≤ _)⟩)
        dsimp only [Pt.U, Pt.locs, Pt.cells, Pt.slots] at X62 l62 y62 z62 st62 hQ62
        subst l62 y62 z62
        obtain ⟨b_62, vb_62, kb_62, rv62, Nq62, Kq62, u62_0, u62_1, u62_2, u62_3, u62_4⟩ := hQ62
        subst rv62
        have N62 := Fr.app N32 Nq62
        have g_b_62 : n0 ≤ b_62 := Nat.le_trans (own_le O50) u62_0
        have sz_b_62 : h0.size ≤ b_62 := Nat.le_trans K50.1 u62_0
        have K63 := K50.trans Kq62 all0
        have O63 := O50.keep Kq62 all0
        have pre64 : ∀ tz_, Steps p.tables e below (T62.setTop (mkF m 39 #[.val (.int i0), .val (.int i1), .val (.int i2), .val (.int i3), .val (.int ((i3 &&& (3 : Int32)) % (3 : Int32))), .val (.int ((((i3.toUInt32 >>> ((2 : Int32) &&& 31).toUInt32).toInt32) &&& (3 : Int32)) % (3 : Int32))), .val (.int ((((i3.toUInt32 >>> ((4 : Int32) &&& 31).toUInt32).toInt32) &&& (3 : Int32)) % (3 : Int32))), .val (.ref ga), .unset, .unset, .unset] [(.ref b_62)])) tz_ → Steps p.tables e below (s₁.setTop (entryFrame m #[(.int i0), (.int i1), (.int i2), (.int i3)] maxLocals)) tz_ := fun tz_ kk => pre61 tz_ (by
          refine st62 _ ?_
          exact kk)
        exact tail52 ⟨b_62, vb_62, kb_62, (1 : Int32), [(.int ((i1 &&& (255 : Int32)).toInt8.toInt32))], [((i1 &&& (255 : Int32)).toInt8.toInt32)], T62, _, vq32, _, hS32, (Nat.le_trans hk32 Kq62.1), hZ, hown, (hV32.keep Kq62), X62.more (by decide) (by decide), N62, ((Keep.refl T32.heap []).trans Kq62 all0), pre64, u62_0, u62_1, u62_2, u62_3, u62_4, ⟨by decide, rfl, Nat.le_of_ble_eq_true rfl⟩, hk54.symm, rfl⟩
      · skip
        have pre65 : ∀ tz_, Steps p.tables e below (T32.setTop (mkF m 36 #[.val (.int i0), .val (.int i1), .val (.int i2), .val (.int i3), .val (.int ((i3 &&& (3 : Int32)) % (3 : Int32))), .val (.int ((((i3.toUInt32 >>> ((2 : Int32) &&& 31).toUInt32).toInt32) &&& (3 : Int32)) % (3 : Int32))), .val (.int ((((i3.toUInt32 >>> ((4 : Int32) &&& 31).toUInt32).toInt32) &&& (3 : Int32)) % (3 : Int32))), .val (.ref ga), .unset, .unset, .unset] [(.int 2), (.int i1)])) tz_ → Steps p.tables e below (s₁.setTop (entryFrame m #[(.int i0), (.int i1), (.int i2), (.int i3)] maxLocals)) tz_ := fun tz_ kk => pre53 tz_ (by rw [hk54] at kk ⊢; exact kk)
        have pre66 : ∀ tz_, Steps p.tables e below (T32.setTop (mkF m 36 #[.val (.int i0), .val (.int i1), .val (.int i2), .val (.int i3), .val (.int ((i3 &&& (3 : Int32)) % (3 : Int32))), .val (.int ((((i3.toUInt32 >>> ((2 : Int32) &&& 31).toUInt32).toInt32) &&& (3 : Int32)) % (3 : Int32))), .val (.int ((((i3.toUInt32 >>> ((4 : Int32) &&& 31).toUInt32).toInt32) &&& (3 : Int32)) % (3 : Int32))), .val (.ref ga), .unset, .unset, .unset] [(.int 2), (.int i1)])) tz_ → Steps p.tables e below (s₁.setTop (entryFrame m #[(.int i0), (.int i1), (.int i2), (.int i3)] maxLocals)) tz_ := fun tz_ kk => pre65 tz_ (by
          show Steps p.tables e below (T32.setTop (mkF m 36 #[.val (.int i0), .val (.int i1), .val (.int i2), .val (.int i3), .val (.int ((i3 &&& (3 : Int32)) % (3 : Int32))), .val (.int ((((i3.toUInt32 >>> ((2 : Int32) &&& 31).toUInt32).toInt32) &&& (3 : Int32)) % (3 : Int32))), .val (.int ((((i3.toUInt32 >>> ((4 : Int32) &&& 31).toUInt32).toInt32) &&& (3 : Int32)) % (3 : Int32))), .val (.ref ga), .unset, .unset, .unset] [(.int 2), (.int i1)])) _
          exact kk)
        -- pc 36: KeyToStringPinLaw.mk
        obtain ⟨_, _, ⟨T67, L67, k67, n67⟩, -, X67, ⟨Lc67, hQ67, l67, y67, z67⟩, st67⟩ := Jvm.LawKit.callS X32 hx (y := (⟨"com/example/ledgerline/ledgerline/KeyToStringPinLaw", "mk", "(II)Ljava/lang/String;"⟩ : MethodName)) hown (mvT hZ (hw _ (mg (i := 0) rfl))) (mvT hZ (hw _ (mg (i := 1) rfl))) (mvT hZ (hw _ (mg (i := 2) rfl))) (mvT hZ (hw _ (mg (i := 3) rfl))) (by decide) (backOf (W := 0) (mk2 l Z av0 hw [] i1 cs T32.heap n0 (own_le O50) O50 p1_S (hcs : ¬ (cs = (0 : Int32)))) hZ (hw _ (mg (i := 3) rfl)) (hw _ (mg (i := 2) rfl)) (by decide) (by decide)) (g := (mkF m 36 #[.val (.int i0), .val (.int i1), .val (.int i2), .val (.int i3), .val (.int ((i3 &&& (3 : Int32)) % (3 : Int32))), .val (.int ((((i3.toUInt32 >>> ((2 : Int32) &&& 31).toUInt32).toInt32) &&& (3 : Int32)) % (3 : Int32))), .val (.int ((((i3.toUInt32 >>> ((4 : Int32) &&& 31).toUInt32).toInt32) &&& (3 : Int32)) % (3 : Int32))), .val (.ref ga), .unset, .unset, .unset] [(.int 2), (.int i1)])) rfl (by rw [hml]; rfl) (argsL := [(.int i1), (.int 2)]) (rest := []) (lenOf pd_0 rfl) rfl (by show 2 * 0 + _ ≤ _; exact Nat.le_of_eq rfl) (hb hby at_36) (fun vmx hWx => ⟨rfl, rfl, (by decide : 8 + 3 ≤ _), (by decide : 24 + 8 ≤ _)⟩)
        dsimp only [Pt.U, Pt.locs, Pt.cells, Pt.slots] at X67 l67 y67 z67 st67 hQ67
        subst l67 y67 z67
        obtain ⟨b_67, vb_67, kb_67, rv67, Nq67, Kq67, u67_0, u67_1, u67_2, u67_3, u67_4⟩ := hQ67
        subst rv67
        have N67 := Fr.app N32 Nq67
        have g_b_67 : n0 ≤ b_67 := Nat.le_trans (own_le O50) u67_0
        have sz_b_67 : h0.size ≤ b_67 := Nat.le_trans K50.1 u67_0
        have K68 := K50.trans Kq67 all0
        have O68 := O50.keep Kq67 all0
        have pre69 : ∀ tz_, Steps p.tables e below (T67.setTop (mkF m 39 #[.val (.int i0), .val (.int i1), .val (.int i2), .val (.int i3), .val (.int ((i3 &&& (3 : Int32)) % (3 : Int32))), .val (.int ((((i3.toUInt32 >>> ((2 : Int32) &&& 31).toUInt32).toInt32) &&& (3 : Int32)) % (3 : Int32))), .val (.int ((((i3.toUInt32 >>> ((4 : Int32) &&& 31).toUInt32).toInt32) &&& (3 : Int32)) % (3 : Int32))), .val (.ref ga), .unset, .unset, .unset] [(.ref b_67)])) tz_ → Steps p.tables e below (s₁.setTop (entryFrame m #[(.int i0), (.int i1), (.int i2), (.int i3)] maxLocals)) tz_ := fun tz_ kk => pre66 tz_ (by
          refine st67 _ ?_
          exact kk)
        exact tail52 ⟨b_67, vb_67, kb_67, (2 : Int32), [(.int ((i1 &&& (255 : Int32)).toInt8.toInt32)), (.int ((((i1.toUInt32 >>> ((8 : Int32) &&& 31).toUInt32).toInt32) &&& (255 : Int32)).toInt8.toInt32))], [((i1 &&& (255 : Int32)).toInt8.toInt32), ((((i1.toUInt32 >>> ((8 : Int32) &&& 31).toUInt32).toInt32) &&& (255 : Int32)).toInt8.toInt32)], T67, _, vq32, _, hS32, (Nat.le_trans hk32 Kq67.1), hZ, hown, (hV32.keep Kq67), X67.more (by decide) (by decide), N67, ((Keep.refl T32.heap []).trans Kq67 all0), pre69, u67_0, u67_1, u67_2, u67_3, u67_4, ⟨by decide, rfl, Nat.le_of_ble_eq_true rfl⟩, hk54.symm, rfl⟩
    · skip
      rintro ⟨gb, vb, kb, zB, vB, xB, T52, Lq52, vq52, kq52, hS52, hk52, hZ, hown, hV52, X52, N52, Kj52, pre52, j52_0, j52_1, j52_2, j52_3, j52_4, hB, hzB, hxB⟩
      have g_gb : n0 ≤ gb := Nat.le_trans (own_le O50) j52_0
      have sz_gb : h0.size ≤ gb := Nat.le_trans K50.1 j52_0
      have K70 := K50.trans Kj52 all0
      have O70 := O50.keep Kj52 all0
      have pre71 : ∀ tz_, Steps p.tables e below (T52.setTop (mkF m 41 #[.val (.int i0), .val (.int i1), .val (.int i2), .val (.int i3), .val (.int ((i3 &&& (3 : Int32)) % (3 : Int32))), .val (.int ((((i3.toUInt32 >>> ((2 : Int32) &&& 31).toUInt32).toInt32) &&& (3 : Int32)) % (3 : Int32))), .val (.int ((((i3.toUInt32 >>> ((4 : Int32) &&& 31).toUInt32).toInt32) &&& (3 : Int32)) % (3 : Int32))), .val (.ref ga), .val (.ref gb), .unset, .unset] [])) tz_ → Steps p.tables e below (s₁.setTop (entryFrame m #[(.int i0), (.int i1), (.int i2), (.int i3)] maxLocals)) tz_ := fun tz_ kk => pre52 tz_ (by
        show Steps p.tables e below (T52.setTop (mkF m 39 #[.val (.int i0), .val (.int i1), .val (.int i2), .val (.int i3), .val (.int ((i3 &&& (3 : Int32)) % (3 : Int32))), .val (.int ((((i3.toUInt32 >>> ((2 : Int32) &&& 31).toUInt32).toInt32) &&& (3 : Int32)) % (3 : Int32))), .val (.int ((((i3.toUInt32 >>> ((4 : Int32) &&& 31).toUInt32).toInt32) &&& (3 : Int32)) % (3 : Int32))), .val (.ref ga), .unset, .unset, .unset] [(.ref gb)])) _
        refine XS.astore X52.here hx rfl (hb hby at_39) rfl rfl (l' := #[.val (.int i0), .val (.int i1), .val (.int i2), .val (.int i3), .val (.int ((i3 &&& (3 : Int32)) % (3 : Int32))), .val (.int ((((i3.toUInt32 >>> ((2 : Int32) &&& 31).toUInt32).toInt32) &&& (3 : Int32)) % (3 : Int32))), .val (.int ((((i3.toUInt32 >>> ((4 : Int32) &&& 31).toUInt32).toInt32) &&& (3 : Int32)) % (3 : Int32))), .val (.ref ga), .val (.ref gb), .unset, .unset]) rfl ?_
        exact kk)
      refine cps (A := ∃ (gc : Addr) (vc : Addr) (kc : ClassId) (zC : Int32) (vC : List Value) (xC : List Int32) (T : State) (Lq : List Loc), ∃ (vq : Vm) (kq : Nat), s.Since vq kq ∧ kq ≤ T.heap.size ∧ Z.Warmed39 (s.setVm vq).vm ∧ (s.setVm vq).vm.findClass "com/example/ledgerline/ledgerline/KeyToStringPinLaw" = some m.cls ∧ Emp Z T.heap vq ∧ Stand p l e room_1 (s.setVm vq) m #[(.int i0), (.int i1), (.int i2), (.int i3)] below meth c T Lq 24 72 ∧ Fr n0 Lq ∧ Keep T52.heap T.heap [] ∧ (∀ tz_, Steps p.tables e below (T.setTop (mkF m 47 #[.val (.int i0), .val (.int i1), .val (.int i2), .val (.int i3), .val (.int ((i3 &&& (3 : Int32)) % (3 : Int32))), .val (.int ((((i3.toUInt32 >>> ((2 : Int32) &&& 31).toUInt32).toInt32) &&& (3 : Int32)) % (3 : Int32))), .val (.int ((((i3.toUInt32 >>> ((4 : Int32) &&& 31).toUInt32).toInt32) &&& (3 : Int32)) % (3 : Int32))), .val (.ref ga), .val (.ref gb), .unset, .unset] [(.ref gc)])) tz_ → Steps p.tables e below (s₁.setTop (entryFrame m #[(.int i0), (.int i1), (.int i2), (.int i3)] maxLocals)) tz_) ∧ (T52.heap.size ≤ gc) ∧ (Exa Z T.heap gc "java/lang/String") ∧ (Fld Z T.heap gc "java/lang/String" "coder" "B" (.int 0)) ∧ (Fld Z T.heap gc "java/lang/String" "value" "[B" (.ref vc)) ∧ (Arv Z T.heap vc kc .byte zC vC (.int 0)) ∧ (Ln zC vC 2) ∧ (zC = ((((i3.toUInt32 >>> ((4 : Int32) &&& 31).toUInt32).toInt32) &&& (3 : Int32)) % (3 : Int32))) ∧ (vC = xC.map Value.int)) (fun tail72 => ?_) ?_
      · skip
        have pre73 : ∀ tz_, Steps p.tables e below (T52.setTop (mkF m 44 #[.val (.int i0), .val (.int i1), .val (.int i2), .val (.int i3), .val (.int ((i3 &&& (3 : Int32)) % (3 : Int32))), .val (.int ((((i3.toUInt32 >>> ((2 : Int32) &&& 31).toUInt32).toInt32) &&& (3 : Int32)) % (3 : Int32))), .val (.int ((((i3.toUInt32 >>> ((4 : Int32) &&& 31).toUInt32).toInt32) &&& (3 : Int32)) % (3 : Int32))), .val (.ref ga), .val (.ref gb), .unset, .unset] [(.int ((((i3.toUInt32 >>> ((4 : Int32) &&& 31).toUInt32).toInt32) &&& (3 : Int32)) % (3 : Int32))), (.int i2)])) tz_ → Steps p.tables e below (s₁.setTop (entryFrame m #[(.int i0), (.int i1), (.int i2), (.int i3)] maxLocals)) tz_ := fun tz_ kk => pre71 tz_ (by
          show Steps p.tables e below (T52.setTop (mkF m 41 #[.val (.int i0), .val (.int i1), .val (.int i2), .val (.int i3), .val (.int ((i3 &&& (3 : Int32)) % (3 : Int32))), .val (.int ((((i3.toUInt32 >>> ((2 : Int32) &&& 31).toUInt32).toInt32) &&& (3 : Int32)) % (3 : Int32))), .val (.int ((((i3.toUInt32 >>> ((4 : Int32) &&& 31).toUInt32).toInt32) &&& (3 : Int32)) % (3 : Int32))), .val (.ref ga), .val (.ref gb), .unset, .unset] [])) _
          refine XS.iloadN X52.here hx rfl (hb hby at_41) rfl ?_
          show Steps p.tables e below (T52.setTop (mkF m 42 #[.val (.int i0), .val (.int i1), .val (.int i2), .val (.int i3), .val (.int ((i3 &&& (3 : Int32)) % (3 : Int32))), .val (.int ((((i3.toUInt32 >>> ((2 : Int32) &&& 31).toUInt32).toInt32) &&& (3 : Int32)) % (3 : Int32))), .val (.int ((((i3.toUInt32 >>> ((4 : Int32) &&& 31).toUInt32).toInt32) &&& (3 : Int32)) % (3 : Int32))), .val (.ref ga), .val (.ref gb), .unset, .unset] [(.int i2)])) _
          refine XS.iload X52.here hx rfl (hb hby at_42) rfl ?_
          exact kk)
        rcases (own_r3 ((i3.toUInt32 >>> ((4 : Int32) &&& 31).toUInt32).toInt32)) with hk74 | hk74 | hk74
        · skip
          have pre75 : ∀ tz_, Steps p.tables e below (T52.setTop (mkF m 44 #[.val (.int i0), .val (.int i1), .val (.int i2), .val (.int i3), .val (.int ((i3 &&& (3 : Int32)) % (3 : Int32))), .val (.int ((((i3.toUInt32 >>> ((2 : Int32) &&& 31).toUInt32).toInt32) &&& (3 : Int32)) % (3 : Int32))), .val (.int ((((i3.toUInt32 >>> ((4 : Int32) &&& 31).toUInt32).toInt32) &&& (3 : Int32)) % (3 : Int32))), .val (.ref ga), .val (.ref gb), .unset, .unset] [(.int 0), (.int i2)])) tz_ → Steps p.tables e below (s₁.setTop (entryFrame m #[(.int i0), (.int i1), (.int i2), (.int i3)] maxLocals)) tz_ := fun tz_ kk => pre73 tz_ (by rw [hk74] at kk ⊢; exact kk)
          have pre76 : ∀ tz_, Steps p.tables e below (T52.setTop (mkF m 44 #[.val (.int i0), .val (.int i1), .val (.int i2), .val (.int i3), .val (.int ((i3 &&& (3 : Int32)) % (3 : Int32))), .val (.int ((((i3.toUInt32 >>> ((2 : Int32) &&& 31).toUInt32).toInt32) &&& (3 : Int32)) % (3 : Int32))), .val (.int ((((i3.toUInt32 >>> ((4 : Int32) &&& 31).toUInt32).toInt32) &&& (3 : Int32)) % (3 : Int32))), .val (.ref ga), .val (.ref gb), .unset, .unset] [(.int 0), (.int i2)])) tz_ → Steps p.tables e below (s₁.setTop (entryFrame m #[(.int i0), (.int i1), (.int i2), (.int i3)] maxLocals)) tz_ := fun tz_ kk => pre75 tz_ (by
            show Steps p.tables e below (T52.setTop (mkF m 44 #[.val (.int i0), .val (.int i1), .val (.int i2), .val (.int i3), .val (.int ((i3 &&& (3 : Int32)) % (3 : Int32))), .val (.int ((((i3.toUInt32 >>> ((2 : Int32) &&& 31).toUInt32).toInt32) &&& (3 : Int32)) % (3 : Int32))), .val (.int ((((i3.toUInt32 >>> ((4 : Int32) &&& 31).toUInt32).toInt32) &&& (3 : Int32)) % (3 : Int32))), .val (.ref ga), .val (.ref gb), .unset, .unset] [(.int 0), (.int i2)])) _
            exact kk)
          -- pc 44: KeyToStringPinLaw.mk
          obtain ⟨_, _, ⟨T77, L77, k77, n77⟩, -, X77, hS77, hg77, ⟨Lc77, hQ77, l77, y77, z77⟩, st77⟩ := Jvm.RoadKit.callSS X52 hx (y := (⟨"com/example/ledgerline/ledgerline/KeyToStringPinLaw", "mk", "(II)Ljava/lang/String;"⟩ : MethodName)) hown (mvT hZ (hw _ (mg (i := 0) rfl))) (mvT hZ (hw _ (mg (i := 1) rfl))) (mvT hZ (hw _ (mg (i := 2) rfl))) (mvT hZ (hw _ (mg (i := 3) rfl))) (by decide) (backOfSV (W := 0) (mk0 l Z av0 hw [] i2 T52.heap n0 (own_le O70) O70 (hheld : Jvm.Lit.constHeld Z "java/lang/String" 7) (hcw : Jvm.Lit.compactW.before av0 Z = true)) hZ (hw _ (mg (i := 3) rfl)) (hw _ (mg (i := 2) rfl)) (by decide) (by decide)) (g := (mkF m 44 #[.val (.int i0), .val (.int i1), .val (.int i2), .val (.int i3), .val (.int ((i3 &&& (3 : Int32)) % (3 : Int32))), .val (.int ((((i3.toUInt32 >>> ((2 : Int32) &&& 31).toUInt32).toInt32) &&& (3 : Int32)) % (3 : Int32))), .val (.int ((((i3.toUInt32 >>> ((4 : Int32) &&& 31).toUInt32).toInt32) &&& (3 : Int32)) % (3 : Int32))), .val (.ref ga), .val (.ref gb), .unset, .unset] [(.int 0), (.int i2)])) rfl (by rw [hml]; rfl) (argsL := [(.int i2), (.int 0)]) (rest := []) (lenOf pd_0 rfl) rfl (by show 2 * 0 + _ ≤ _; exact Nat.le_of_eq rfl) (hb hby at_44) (fun vmx hWx => ⟨rfl, rfl, (by decide : 16 + 4 ≤ _), (by decide : 48 + 8 ≤ _), (hV52.warm hWx)⟩)
          dsimp only [Pt.U, Pt.locs, Pt.cells, Pt.slots] at X77 l77 y77 z77 st77 hQ77 hS77 hg77
          subst l77 y77 z77
          obtain ⟨X77, hS77, hZ, hown⟩ := rebS (s := s) (vm0 := vq52) hS52 hk52 X77 hS77 hg77 hZ hown
          obtain ⟨b_77, vb_77, kb_77, rv77, Nq77, Kq77, u77_0, u77_1, u77_2, u77_3, u77_4, hV77⟩ := hQ77
          subst rv77
          have N77 := Fr.app N52 Nq77
          have g_b_77 : n0 ≤ b_77 := Nat.le_trans (own_le O70) u77_0
          have sz_b_77 : h0.size ≤ b_77 := Nat.le_trans K70.1 u77_0
          have K78 := K70.trans Kq77 all0
          have O78 := O70.keep Kq77 all0
          have hk77 : T77.heap.size ≤ T77.heap.size := Nat.le_refl _
          have pre79 : ∀ tz_, Steps p.tables e below (T77.setTop (mkF m 47 #[.val (.int i0), .val (.int i1), .val (.int i2), .val (.int i3), .val (.int ((i3 &&& (3 : Int32)) % (3 : Int32))), .val (.int ((((i3.toUInt32 >>> ((2 : Int32) &&& 31).toUInt32).toInt32) &&& (3 : Int32)) % (3 : Int32))), .val (.int ((((i3.toUInt32 >>> ((4 : Int32) &&& 31).toUInt32).toInt32) &&& (3 : Int32)) % (3 : Int32))), .val (.ref ga), .val (.ref gb), .unset, .unset] [(.ref b_77)])) tz_ → Steps p.tables e below (s₁.setTop (entryFrame m #[(.int i0), (.int i1), (.int i2), (.int i3)] maxLocals)) tz_ := fun tz_ kk => pre76 tz_ (by
            refine st77.trans ?_
            exact kk)
          exact tail72 ⟨b_77, vb_77, kb_77, (0 : Int32), [], [], T77, _, T77.vm, _, hS77, hk77, hZ, hown, hV77, X77.more (by decide) (by decide), N77, ((Keep.refl T52.heap []).trans Kq77 all0), pre79, u77_0, u77_1, u77_2, u77_3, u77_4, ⟨by decide, rfl, Nat.le_of_ble_eq_true rfl⟩, hk74.symm, rfl⟩
        · skip
          have pre80 : ∀ tz_, Steps p.tables e below (T52.setTop (mkF m 44 #[.val (.int i0), .val (.int i1), .val (.int i2), .val (.int i3), .val (.int ((i3 &&& (3 : Int32)) % (3 : Int32))), .val (.int ((((i3.toUInt32 >>> ((2 : Int32) &&& 31).toUInt32).toInt32) &&& (3 : Int32)) % (3 : Int32))), .val (.int ((((i3.toUInt32 >>> ((4 : Int32) &&& 31).toUInt32).toInt32) &&& (3 : Int32)) % (3 : Int32))), .val (.ref ga), .val (.ref gb), .unset, .unset] [(.int 1), (.int i2)])) tz_ → Steps p.tables e below (s₁.setTop (entryFrame m #[(.int i0), (.int i1), (.int i2), (.int i3)] maxLocals)) tz_ := fun tz_ kk => pre73 tz_ (by rw [hk74] at kk ⊢; exact kk)
          have pre81 : ∀ tz_, Steps p.tables e below (T52.setTop (mkF m 44 #[.val (.int i0), .val (.int i1), .val (.int i2), .val (.int i3), .val (.int ((i3 &&& (3 : Int32)) % (3 : Int32))), .val (.int ((((i3.toUInt32 >>> ((2 : Int32) &&& 31).toUInt32).toInt32) &&& (3 : Int32)) % (3 : Int32))), .val (.int ((((i3.toUInt32 >>> ((4 : Int32) &&& 31).toUInt32).toInt32) &&& (3 : Int32)) % (3 : Int32))), .val (.ref ga), .val (.ref gb), .unset, .unset] [(.int 1), (.int i2)])) tz_ → Steps p.tables e below (s₁.setTop (entryFrame m #[(.int i0), (.int i1), (.int i2), (.int i3)] maxLocals)) tz_ := fun tz_ kk => pre80 tz_ (by
            show Steps p.tables e below (T52.setTop (mkF m 44 #[.val (.int i0), .val (.int i1), .val (.int i2), .val (.int i3), .val (.int ((i3 &&& (3 : Int32)) % (3 : Int32))), .val (.int ((((i3.toUInt32 >>> ((2 : Int32) &&& 31).toUInt32).toInt32) &&& (3 : Int32)) % (3 : Int32))), .val (.int ((((i3.toUInt32 >>> ((4 : Int32) &&& 31).toUInt32).toInt32) &&& (3 : Int32)) % (3 : Int32))), .val (.ref ga), .val (.ref gb), .unset, .unset] [(.int 1), (.int i2)])) _
            exact kk)
          -- pc 44: KeyToStringPinLaw.mk
          obtain ⟨_, _, ⟨T82, L82, k82, n82⟩, -, X82, ⟨Lc82, hQ82, l82, y82, z82⟩, st82⟩ := Jvm.LawKit.callS X52 hx (y := (⟨"com/example/ledgerline/ledgerline/KeyToStringPinLaw", "mk", "(II)Ljava/lang/String;"⟩ : MethodName)) hown (mvT hZ (hw _ (mg (i := 0) rfl))) (mvT hZ (hw _ (mg (i := 1) rfl))) (mvT hZ (hw _ (mg (i := 2) rfl))) (mvT hZ (hw _ (mg (i := 3) rfl))) (by decide) (backOf (W := 0) (mk1 l Z av0 hw [] i2 cs T52.heap n0 (own_le O70) O70 p1_S (hcs : ¬ (cs = (0 : Int32)))) hZ (hw _ (mg (i := 3) rfl)) (hw _ (mg (i := 2) rfl)) (by decide) (by decide)) (g := (mkF m 44 #[.val (.int i0), .val (.int i1), .val (.int i2), .val (.int i3), .val (.int ((i3 &&& (3 : Int32)) % (3 : Int32))), .val (.int ((((i3.toUInt32 >>> ((2 : Int32) &&& 31).toUInt32).toInt32) &&& (3 : Int32)) % (3 : Int32))), .val (.int ((((i3.toUInt32 >>> ((4 : Int32) &&& 31).toUInt32).toInt32) &&& (3 : Int32)) % (3 : Int32))), .val (.ref ga), .val (.ref gb), .unset, .unset] [(.int 1), (.int i2)])) rfl (by rw [hml]; rfl) (argsL := [(.int i2), (.int 1)]) (rest := []) (lenOf pd_0 rfl) rfl (by show 2 * 0 + _ ≤ _; exact Nat.le_of_eq rfl) (hb hby at_44) (fun vmx hWx => ⟨rfl, rfl, (by decide : 16 + 2 ≤ _), (by decide : 48 + 5 ≤ _)⟩)
          dsimp only [Pt.U, Pt.locs, Pt.cells, Pt.slots] at X82 l82 y82 z82 st82 hQ82
          subst l82 y82 z82
          obtain ⟨b_82, vb_82, kb_82, rv82, Nq82, Kq82, u82_0, u82_1, u82_2, u82_3, u82_4⟩ := hQ82
          subst rv82
          have N82 := Fr.app N52 Nq82
          have g_b_82 : n0 ≤ b_82 := Nat.le_trans (own_le O70) u82_0
          have sz_b_82 : h0.size ≤ b_82 := Nat.le_trans K70.1 u82_0
          have K83 := K70.trans Kq82 all0
          have O83 := O70.keep Kq82 all0
          have pre84 : ∀ tz_, Steps p.tables e below (T82.setTop (mkF m 47 #[.val (.int i0), .val (.int i1), .val (.int i2), .val (.int i3), .val (.int ((i3 &&& (3 : Int32)) % (3 : Int32))), .val (.int ((((i3.toUInt32 >>> ((2 : Int32) &&& 31).toUInt32).toInt32) &&& (3 : Int32)) % (3 : Int32))), .val (.int ((((i3.toUInt32 >>> ((4 : Int32) &&& 31).toUInt32).toInt32) &&& (3 : Int32)) % (3 : Int32))), .val (.ref ga), .val (.ref gb), .unset, .unset] [(.ref b_82)])) tz_ → Steps p.tables e below (s₁.setTop (entryFrame m #[(.int i0), (.int i1), (.int i2), (.int i3)] maxLocals)) tz_ := fun tz_ kk => pre81 tz_ (by
            refine st82 _ ?_
            exact kk)
          exact tail72 ⟨b_82, vb_82, kb_82, (1 : Int32), [(.int ((i2 &&& (255 : Int32)).toInt8.toInt32))], [((i2 &&& (255 : Int32)).toInt8.toInt32)], T82, _, vq52, _, hS52, (Nat.le_trans hk52 Kq82.1), hZ, hown, (hV52.keep Kq82), X82.more (by decide) (by decide), N82, ((Keep.refl T52.heap []).trans Kq82 all0), pre84, u82_0, u82_1, u82_2, u82_3, u82_4, ⟨by decide, rfl, Nat.le_of_ble_eq_true rfl⟩, hk74.symm, rfl⟩
        · skip
          have pre85 : ∀ tz_, Steps p.tables e below (T52.setTop (mkF m 44 #[.val (.int i0), .val (.int i1), .val (.int i2), .val (.int i3), .val (.int ((i3 &&& (3 : Int32)) % (3 : Int32))), .val (.int ((((i3.toUInt32 >>> ((2 : Int32) &&& 31).toUInt32).toInt32) &&& (3 : Int32)) % (3 : Int32))), .val (.int ((((i3.toUInt32 >>> ((4 : Int32) &&& 31).toUInt32).toInt32) &&& (3 : Int32)) % (3 : Int32))), .val (.ref ga), .val (.ref gb), .unset, .unset] [(.int 2), (.int i2)])) tz_ → Steps p.tables e below (s₁.setTop (entryFrame m #[(.int i0), (.int i1), (.int i2), (.int i3)] maxLocals)) tz_ := fun tz_ kk => pre73 tz_ (by rw [hk74] at kk ⊢; exact kk)
          have pre86 : ∀ tz_, Steps p.tables e below (T52.setTop (mkF m 44 #[.val (.int i0), .val (.int i1), .val (.int i2), .val (.int i3), .val (.int ((i3 &&& (3 : Int32)) % (3 : Int32))), .val (.int ((((i3.toUInt32 >>> ((2 : Int32) &&& 31).toUInt32).toInt32) &&& (3 : Int32)) % (3 : Int32))), .val (.int ((((i3.toUInt32 >>> ((4 : Int32) &&& 31).toUInt32).toInt32) &&& (3 : Int32)) % (3 : Int32))), .val (.ref ga), .val (.ref gb), .unset, .unset] [(.int 2), (.int i2)])) tz_ → Steps p.tables e below (s₁.setTop (entryFrame m #[(.int i0), (.int i1), (.int i2), (.int i3)] maxLocals)) tz_ := fun tz_ kk => pre85 tz_ (by
            show Steps p.tables e below (T52.setTop (mkF m 44 #[.val (.int i0), .val (.int i1), .val (.int i2), .val (.int i3), .val (.int ((i3 &&& (3 : Int32)) % (3 : Int32))), .val (.int ((((i3.toUInt32 >>> ((2 : Int32) &&& 31).toUInt32).toInt32) &&& (3 : Int32)) % (3 : Int32))), .val (.int ((((i3.toUInt32 >>> ((4 : Int32) &&& 31).toUInt32).toInt32) &&& (3 : Int32)) % (3 : Int32))), .val (.ref ga), .val (.ref gb), .unset, .unset] [(.int 2), (.int i2)])) _
            exact kk)
          -- pc 44: KeyToStringPinLaw.mk
          obtain ⟨_, _, ⟨T87, L87, k87, n87⟩, -, X87, ⟨Lc87, hQ87, l87, y87, z87⟩, st87⟩ := Jvm.LawKit.callS X52 hx (y := (⟨"com/example/ledgerline/ledgerline/KeyToStringPinLaw", "mk", "(II)Ljava/lang/String;"⟩ : MethodName)) hown (mvT hZ (hw _ (mg (i := 0) rfl))) (mvT hZ (hw _ (mg (i := 1) rfl))) (mvT hZ (hw _ (mg (i := 2) rfl))) (mvT hZ (hw _ (mg (i := 3) rfl))) (by decide) (backOf (W := 0) (mk2 l Z av0 hw [] i2 cs T52.heap n0 (own_le O70) O70 p1_S (hcs : ¬ (cs = (0 : Int32)))) hZ (hw _ (mg (i := 3) rfl)) (hw _ (mg (i := 2) rfl)) (by decide) (by decide)) (g := (mkF m 44 #[.val (.int i0), .val (.int i1), .val (.int i2), .val (.int i3), .val (.int ((i3 &&& (3 : Int32)) % (3 : Int32))), .val (.int ((((i3.toUInt32 >>> ((2 : Int32) &&& 31).toUInt32).toInt32) &&& (3 : Int32)) % (3 : Int32))), .val (.int ((((i3.toUInt32 >>> ((4 : Int32) &&& 31).toUInt32).toInt32) &&& (3 : Int32)) % (3 : Int32))), .val (.ref ga), .val (.ref gb), .unset, .unset] [(.int 2), (.int i2)])) rfl (by rw [hml]; rfl) (argsL := [(.int i2), (.int 2)]) (rest := []) (lenOf pd_0 rfl) rfl (by show 2 * 0 + _ ≤ _; exact Nat.le_of_eq rfl) (hb hby at_44) (fun vmx hWx => ⟨rfl, rfl, (by decide : 16 + 3 ≤ _), (by decide : 48 + 8 ≤ _)⟩)
          dsimp only [Pt.U, Pt.locs, Pt.cells, Pt.slots] at X87 l87 y87 z87 st87 hQ87
          subst l87 y87 z87
          obtain ⟨b_87, vb_87, kb_87, rv87, Nq87, Kq87, u87_0, u87_1, u87_2, u87_3, u87_4⟩ := hQ87
          subst rv87
          have N87 := Fr.app N52 Nq87
          have g_b_87 : n0 ≤ b_87 := Nat.le_trans (own_le O70) u87_0
          have sz_b_87 : h0.size ≤ b_87 := Nat.le_trans K70.1 u87_0
          have K88 := K70.trans Kq87 all0
          have O88 := O70.keep Kq87 all0
          have pre89 : ∀ tz_, Steps p.tables e below (T87.setTop (mkF m 47 #[.val (.int i0), .val (.int i1), .val (.int i2), .val (.int i3), .val (.int ((i3 &&& (3 : Int32)) % (3 : Int32))), .val (.int ((((i3.toUInt32 >>> ((2 : Int32) &&& 31).toUInt32).toInt32) &&& (3 : Int32)) % (3 : Int32))), .val (.int ((((i3.toUInt32 >>> ((4 : Int32) &&& 31).toUInt32).toInt32) &&& (3 : Int32)) % (3 : Int32))), .val (.ref ga), .val (.ref gb), .unset, .unset] [(.ref b_87)])) tz_ → Steps p.tables e below (s₁.setTop (entryFrame m #[(.int i0), (.int i1), (.int i2), (.int i3)] maxLocals)) tz_ := fun tz_ kk => pre86 tz_ (by
            refine st87 _ ?_
            exact kk)
          exact tail72 ⟨b_87, vb_87, kb_87, (2 : Int32), [(.int ((i2 &&& (255 : Int32)).toInt8.toInt32)), (.int ((((i2.toUInt32 >>> ((8 : Int32) &&& 31).toUInt32).toInt32) &&& (255 : Int32)).toInt8.toInt32))], [((i2 &&& (255 : Int32)).toInt8.toInt32), ((((i2.toUInt32 >>> ((8 : Int32) &&& 31).toUInt32).toInt32) &&& (255 : Int32)).toInt8.toInt32)], T87, _, vq52, _, hS52, (Nat.le_trans hk52 Kq87.1), hZ, hown, (hV52.keep Kq87), X87.more (by decide) (by decide), N87, ((Keep.refl T52.heap []).trans Kq87 all0), pre89, u87_0, u87_1, u87_2, u87_3, u87_4, ⟨by decide, rfl, Nat.le_of_ble_eq_true rfl⟩, hk74.symm, rfl⟩
      · skip
        rintro ⟨gc, vc, kc, zC, vC, xC, T72, Lq72, vq72, kq72, hS72, hk72, hZ, hown, hV72, X72, N72, Kj72, pre72, j72_0, j72_1, j72_2, j72_3, j72_4, hC, hzC, hxC⟩
        have g_gc : n0 ≤ gc := Nat.le_trans (own_le O70) j72_0
        have sz_gc : h0.size ≤ gc := Nat.le_trans K70.1 j72_0
        have K90 := K70.trans Kj72 all0
        have O90 := O70.keep Kj72 all0
        obtain ⟨T91, h91, X91, e91, E91, A91, D91, -, st91⟩ := newO X72 hx hZ hown (hw _ (mg (i := 41) rfl)) (hw _ (mg (i := 42) rfl)) (hw _ (mg (i := 43) rfl)) rfl (g := (mkF m 49 #[.val (.int i0), .val (.int i1), .val (.int i2), .val (.int i3), .val (.int ((i3 &&& (3 : Int32)) % (3 : Int32))), .val (.int ((((i3.toUInt32 >>> ((2 : Int32) &&& 31).toUInt32).toInt32) &&& (3 : Int32)) % (3 : Int32))), .val (.int ((((i3.toUInt32 >>> ((4 : Int32) &&& 31).toUInt32).toInt32) &&& (3 : Int32)) % (3 : Int32))), .val (.ref ga), .val (.ref gb), .val (.ref gc), .unset] [])) rfl (hb hby at_49) (by decide) (by decide)
        obtain ⟨b91, q91⟩ : ∃ z, z = T72.heap.size := ⟨_, rfl⟩
        rw [← q91] at A91 D91 st91
        have g_b91 : n0 ≤ b91 := Nat.le_trans (own_le O90) (Nat.le_of_eq q91.symm)
        have sz_b91 : h0.size ≤ b91 := Nat.le_trans K90.1 (Nat.le_of_eq q91.symm)
        have K92 := K90.ext E91
        have O92 := O90.ext E91
        have F91_pts : Fld Z h91 b91 "com/example/ledgerline/ledgerline/Settlement$Key" "pts" "Ljava/lang/String;" .null := D91 (Or.inr (hw _ (mg (i := 54) rfl))) (ty := (.object "java/lang/String")) (by decide)
        have F91_processingEntity : Fld Z h91 b91 "com/example/ledgerline/ledgerline/Settlement$Key" "processingEntity" "Ljava/lang/String;" .null := D91 (Or.inr (hw _ (mg (i := 56) rfl))) (ty := (.object "java/lang/String")) (by decide)
        have F91_settlementId : Fld Z h91 b91 "com/example/ledgerline/ledgerline/Settlement$Key" "settlementId" "Ljava/lang/String;" .null := D91 (Or.inr (hw _ (mg (i := 58) rfl))) (ty := (.object "java/lang/String")) (by decide)
        have pre93 : ∀ tz_, Steps p.tables e below (T91.setTop (mkF m 59 #[.val (.int i0), .val (.int i1), .val (.int i2), .val (.int i3), .val (.int ((i3 &&& (3 : Int32)) % (3 : Int32))), .val (.int ((((i3.toUInt32 >>> ((2 : Int32) &&& 31).toUInt32).toInt32) &&& (3 : Int32)) % (3 : Int32))), .val (.int ((((i3.toUInt32 >>> ((4 : Int32) &&& 31).toUInt32).toInt32) &&& (3 : Int32)) % (3 : Int32))), .val (.ref ga), .val (.ref gb), .val (.ref gc), .unset] [(.ref gc), (.ref gb), (.ref ga), (.ref b91), (.ref b91)])) tz_ → Steps p.tables e below (s₁.setTop (entryFrame m #[(.int i0), (.int i1), (.int i2), (.int i3)] maxLocals)) tz_ := fun tz_ kk => pre72 tz_ (by
          show Steps p.tables e below (T72.setTop (mkF m 47 #[.val (.int i0), .val (.int i1), .val (.int i2), .val (.int i3), .val (.int ((i3 &&& (3 : Int32)) % (3 : Int32))), .val (.int ((((i3.toUInt32 >>> ((2 : Int32) &&& 31).toUInt32).toInt32) &&& (3 : Int32)) % (3 : Int32))), .val (.int ((((i3.toUInt32 >>> ((4 : Int32) &&& 31).toUInt32).toInt32) &&& (3 : Int32)) % (3 : Int32))), .val (.ref ga), .val (.ref gb), .unset, .unset] [(.ref gc)])) _
          refine XS.astore X72.here hx rfl (hb hby at_47) rfl rfl (l' := #[.val (.int i0), .val (.int i1), .val (.int i2), .val (.int i3), .val (.int ((i3 &&& (3 : Int32)) % (3 : Int32))), .val (.int ((((i3.toUInt32 >>> ((2 : Int32) &&& 31).toUInt32).toInt32) &&& (3 : Int32)) % (3 : Int32))), .val (.int ((((i3.toUInt32 >>> ((4 : Int32) &&& 31).toUInt32).toInt32) &&& (3 : Int32)) % (3 : Int32))), .val (.ref ga), .val (.ref gb), .val (.ref gc), .unset]) rfl ?_
          show Steps p.tables e below (T72.setTop (mkF m 49 #[.val (.int i0), .val (.int i1), .val (.int i2), .val (.int i3), .val (.int ((i3 &&& (3 : Int32)) % (3 : Int32))), .val (.int ((((i3.toUInt32 >>> ((2 : Int32) &&& 31).toUInt32).toInt32) &&& (3 : Int32)) % (3 : Int32))), .val (.int ((((i3.toUInt32 >>> ((4 : Int32) &&& 31).toUInt32).toInt32) &&& (3 : Int32)) % (3 : Int32))), .val (.ref ga), .val (.ref gb), .val (.ref gc), .unset] [])) _
          refine st91 _ ?_
          refine XS.dup X91.here hx rfl (hb hby at_52) rfl rfl ?_
          refine XS.aload X91.here hx rfl (hb hby at_53) rfl rfl ?_
          show Steps p.tables e below (T91.setTop (mkF m 55 #[.val (.int i0), .val (.int i1), .val (.int i2), .val (.int i3), .val (.int ((i3 &&& (3 : Int32)) % (3 : Int32))), .val (.int ((((i3.toUInt32 >>> ((2 : Int32) &&& 31).toUInt32).toInt32) &&& (3 : Int32)) % (3 : Int32))), .val (.int ((((i3.toUInt32 >>> ((4 : Int32) &&& 31).toUInt32).toInt32) &&& (3 : Int32)) % (3 : Int32))), .val (.ref ga), .val (.ref gb), .val (.ref gc), .unset] [(.ref ga), (.ref b91), (.ref b91)])) _
          refine XS.aload X91.here hx rfl (hb hby at_55) rfl rfl ?_
          refine XS.aload X91.here hx rfl (hb hby at_57) rfl rfl ?_
          show Steps p.tables e below (T91.setTop (mkF m 59 #[.val (.int i0), .val (.int i1), .val (.int i2), .val (.int i3), .val (.int ((i3 &&& (3 : Int32)) % (3 : Int32))), .val (.int ((((i3.toUInt32 >>> ((2 : Int32) &&& 31).toUInt32).toInt32) &&& (3 : Int32)) % (3 : Int32))), .val (.int ((((i3.toUInt32 >>> ((4 : Int32) &&& 31).toUInt32).toInt32) &&& (3 : Int32)) % (3 : Int32))), .val (.ref ga), .val (.ref gb), .val (.ref gc), .unset] [(.ref gc), (.ref gb), (.ref ga), (.ref b91), (.ref b91)])) _
          exact kk)
        -- pc 59: Settlement$Key.init
        obtain ⟨_, _, ⟨T94, L94, k94, n94⟩, -, X94, ⟨Lc94, hQ94, l94, y94, z94⟩, st94⟩ := X91.specialBack hx (y := (⟨"com/example/ledgerline/ledgerline/Settlement$Key", "<init>", "(Ljava/lang/String;Ljava/lang/String;Ljava/lang/String;)V"⟩ : MethodName)) rfl hown (mvT hZ (hw _ (mg (i := 44) rfl))) (mvT hZ (hw _ (mg (i := 45) rfl))) (mvT hZ (hw _ (mg (i := 46) rfl))) (by decide) (backOf (W := 1) (kin l Z av0 hw [] b91 ga gb gc h91 n0 (own_le O92) A91 F91_pts F91_processingEntity F91_settlementId g_b91) hZ (hw _ (mg (i := 46) rfl)) (hw _ (mg (i := 43) rfl)) (by decide) (by decide)) (g := (mkF m 59 #[.val (.int i0), .val (.int i1), .val (.int i2), .val (.int i3), .val (.int ((i3 &&& (3 : Int32)) % (3 : Int32))), .val (.int ((((i3.toUInt32 >>> ((2 : Int32) &&& 31).toUInt32).toInt32) &&& (3 : Int32)) % (3 : Int32))), .val (.int ((((i3.toUInt32 >>> ((4 : Int32) &&& 31).toUInt32).toInt32) &&& (3 : Int32)) % (3 : Int32))), .val (.ref ga), .val (.ref gb), .val (.ref gc), .unset] [(.ref gc), (.ref gb), (.ref ga), (.ref b91), (.ref b91)])) rfl (by rw [hml]; rfl) (Steps.refl _) (a := b91) (argsL := [(.ref ga), (.ref gb), (.ref gc)]) (rest := [(.ref b91)]) (lenOf pd_8 rfl) rfl (by show 2 * 0 + _ ≤ _; exact Nat.le_of_eq rfl) (hb hby at_59) (fun vmx hWx => ⟨rfl, e91, (by decide : 25 + 0 ≤ _), (by decide : 75 + 0 ≤ _)⟩)
        dsimp only [Pt.U, Pt.locs, Pt.cells, Pt.slots] at X94 l94 y94 z94 st94 hQ94
        subst l94 y94 z94
        obtain ⟨rv94, Nq94, Kq94, u94_0, u94_1, u94_2, u94_3⟩ := hQ94
        subst rv94
        have N94 := Fr.app N72 Nq94
        have K95 := K92.trans Kq94 (allS (Or.inr sz_b91) all0)
        have O95 := O92.keep Kq94 (allS g_b91 all0)
        have pre96 : ∀ tz_, Steps p.tables e below (T94.setTop (mkF m 62 #[.val (.int i0), .val (.int i1), .val (.int i2), .val (.int i3), .val (.int ((i3 &&& (3 : Int32)) % (3 : Int32))), .val (.int ((((i3.toUInt32 >>> ((2 : Int32) &&& 31).toUInt32).toInt32) &&& (3 : Int32)) % (3 : Int32))), .val (.int ((((i3.toUInt32 >>> ((4 : Int32) &&& 31).toUInt32).toInt32) &&& (3 : Int32)) % (3 : Int32))), .val (.ref ga), .val (.ref gb), .val (.ref gc), .unset] [(.ref b91)])) tz_ → Steps p.tables e below (s₁.setTop (entryFrame m #[(.int i0), (.int i1), (.int i2), (.int i3)] maxLocals)) tz_ := fun tz_ kk => pre93 tz_ (by
          refine st94.trans ?_
          show Steps p.tables e below (T94.setTop (mkF m 62 #[.val (.int i0), .val (.int i1), .val (.int i2), .val (.int i3), .val (.int ((i3 &&& (3 : Int32)) % (3 : Int32))), .val (.int ((((i3.toUInt32 >>> ((2 : Int32) &&& 31).toUInt32).toInt32) &&& (3 : Int32)) % (3 : Int32))), .val (.int ((((i3.toUInt32 >>> ((4 : Int32) &&& 31).toUInt32).toInt32) &&& (3 : Int32)) % (3 : Int32))), .val (.ref ga), .val (.ref gb), .val (.ref gc), .unset] [(.ref b91)])) _
          exact kk)
        have f97 := ((((j32_1.keep Kj52).keep Kj72).ext E91).keep Kq94)
        have ne98 : ga ≠ b91 := (Nat.ne_of_lt (Nat.lt_of_lt_of_le (Nat.lt_of_lt_of_le j32_1.lt (Nat.le_trans Kj52.1 Kj72.1)) (Nat.le_of_eq q91.symm)))
        have f99 := ((((j32_2.keep Kj52 nin0).keep Kj72 nin0).ext E91).keep Kq94 (ninS ne98 nin0))
        have f100 := ((((j32_3.keep Kj52 nin0).keep Kj72 nin0).ext E91).keep Kq94 (ninS ne98 nin0))
        have ne101 : va ≠ b91 := (Nat.ne_of_lt (Nat.lt_of_lt_of_le (Nat.lt_of_lt_of_le j32_4.lt (Nat.le_trans Kj52.1 Kj72.1)) (Nat.le_of_eq q91.symm)))
        have f102 := ((((j32_4.keep Kj52 nin0).keep Kj72 nin0).ext E91).keep Kq94 (ninS ne101 nin0))
        have f103 := (((j52_1.keep Kj72).ext E91).keep Kq94)
        have ne104 : gb ≠ b91 := (Nat.ne_of_lt (Nat.lt_of_lt_of_le (Nat.lt_of_lt_of_le j52_1.lt Kj72.1) (Nat.le_of_eq q91.symm)))
        have f105 := (((j52_2.keep Kj72 nin0).ext E91).keep Kq94 (ninS ne104 nin0))
        have f106 := (((j52_3.keep Kj72 nin0).ext E91).keep Kq94 (ninS ne104 nin0))
        have ne107 : vb ≠ b91 := (Nat.ne_of_lt (Nat.lt_of_lt_of_le (Nat.lt_of_lt_of_le j52_4.lt Kj72.1) (Nat.le_of_eq q91.symm)))
        have f108 := (((j52_4.keep Kj72 nin0).ext E91).keep Kq94 (ninS ne107 nin0))
        have f109 := ((j72_1.ext E91).keep Kq94)
        have ne110 : gc ≠ b91 := (Nat.ne_of_lt (Nat.lt_of_lt_of_le j72_1.lt (Nat.le_of_eq q91.symm)))
        have f111 := ((j72_2.ext E91).keep Kq94 (ninS ne110 nin0))
        have f112 := ((j72_3.ext E91).keep Kq94 (ninS ne110 nin0))
        have ne113 : vc ≠ b91 := (Nat.ne_of_lt (Nat.lt_of_lt_of_le j72_4.lt (Nat.le_of_eq q91.symm)))
        have f114 := ((j72_4.ext E91).keep Kq94 (ninS ne113 nin0))
        -- pc 62: Settlement$Key.toString
        obtain ⟨cq115, kq115, q115a, q115b, q115c⟩ := isOf hZ rfl u94_0
        obtain ⟨_, _, ⟨T115, L115, k115, n115⟩, -, X115, hS115, hg115, ⟨Lc115, hQ115, l115, y115, z115⟩, st115⟩ := X94.virtualBackS hx (y := (⟨"com/example/ledgerline/ledgerline/Settlement$Key", "toString", "()Ljava/lang/String;"⟩ : MethodName)) (z := (⟨"com/example/ledgerline/ledgerline/Settlement$Key", "toString", "()Ljava/lang/String;"⟩ : MethodName)) hown (mvT hZ (hw _ (mg (i := 59) rfl))) (mvT hZ (hw _ (mg (i := 60) rfl))) (notFace_of_selects (args := #[]) (mvT hZ (hw _ (mg (i := 62) rfl)))) (mvT hZ (hw _ (mg (i := 62) rfl))) (mvT hZ (hw _ (mg (i := 61) rfl))) (by decide) (backOfSV (W := 0) (kts l Z av0 hw [] b91 ga va ka zA vA gb vb kb zB vB gc vc kc zC vC cs T94.heap n0 (own_le O95) O95 p1_S (hcs : ¬ (cs = (0 : Int32))) u94_0 u94_1 u94_2 u94_3 f97 f99 f100 f102 f103 f105 f106 f108 f109 f111 f112 f114 (hA : Ln zA vA 2) (hB : Ln zB vB 2) (hC : Ln zC vC 2) (hheld2 : Jvm.Lit.constHeld Z "com/example/ledgerline/ledgerline/Settlement$Key" 26) (hcw : Jvm.Lit.compactW.before av0 Z = true)) hZ (hw _ (mg (i := 63) rfl)) (hw _ (mg (i := 43) rfl)) (by decide) (by decide)) q115a q115c (g := (mkF m 62 #[.val (.int i0), .val (.int i1), .val (.int i2), .val (.int i3), .val (.int ((i3 &&& (3 : Int32)) % (3 : Int32))), .val (.int ((((i3.toUInt32 >>> ((2 : Int32) &&& 31).toUInt32).toInt32) &&& (3 : Int32)) % (3 : Int32))), .val (.int ((((i3.toUInt32 >>> ((4 : Int32) &&& 31).toUInt32).toInt32) &&& (3 : Int32)) % (3 : Int32))), .val (.ref ga), .val (.ref gb), .val (.ref gc), .unset] [(.ref b91)])) rfl (by rw [hml]; rfl) (Steps.refl _) (argsL := []) (rest := []) (lenOf pd_9 rfl) rfl (by show 2 * 0 + _ ≤ _; exact Nat.le_of_eq rfl) (hb hby at_62) (fun vmx hWx => ⟨rfl, rfl, (by decide : 25 + 6 ≤ _), (by decide : 75 + 40 ≤ _), ((Emp.slash hV72).warm hWx)⟩)
        dsimp only [Pt.U, Pt.locs, Pt.cells, Pt.slots] at X115 l115 y115 z115 st115 hQ115 hS115 hg115
        subst l115 y115 z115
        obtain ⟨X115, hS115, hZ, hown⟩ := rebS (s := s) (vm0 := vq72) hS72 (Nat.le_trans hk72 (Nat.le_trans E91.1 Kq94.1)) X115 hS115 hg115 hZ hown
        obtain ⟨b_115, vS_115, kS_115, rv115, Nq115, Kq115, u115_0, u115_1, u115_2, u115_3, u115_4, hV115⟩ := hQ115
        subst rv115
        have N115 := Fr.app N94 Nq115
        have g_b_115 : n0 ≤ b_115 := Nat.le_trans (own_le O95) u115_0
        have sz_b_115 : h0.size ≤ b_115 := Nat.le_trans K95.1 u115_0
        have K116 := K95.trans Kq115 all0
        have O116 := O95.keep Kq115 all0
        have hk115 : T115.heap.size ≤ T115.heap.size := Nat.le_refl _
        have pre117 : ∀ tz_, Steps p.tables e below (T115.setTop (mkF m 76 #[.val (.int i0), .val (.int i1), .val (.int i2), .val (.int i3), .val (.int ((i3 &&& (3 : Int32)) % (3 : Int32))), .val (.int ((((i3.toUInt32 >>> ((2 : Int32) &&& 31).toUInt32).toInt32) &&& (3 : Int32)) % (3 : Int32))), .val (.int ((((i3.toUInt32 >>> ((4 : Int32) &&& 31).toUInt32).toInt32) &&& (3 : Int32)) % (3 : Int32))), .val (.ref ga), .val (.ref gb), .val (.ref gc), .val (.ref b_115)] [(.ref b_115)])) tz_ → Steps p.tables e below (s₁.setTop (entryFrame m #[(.int i0), (.int i1), (.int i2), (.int i3)] maxLocals)) tz_ := fun tz_ kk => pre96 tz_ (by
          refine st115.trans ?_
          show Steps p.tables e below (T115.setTop (mkF m 65 #[.val (.int i0), .val (.int i1), .val (.int i2), .val (.int i3), .val (.int ((i3 &&& (3 : Int32)) % (3 : Int32))), .val (.int ((((i3.toUInt32 >>> ((2 : Int32) &&& 31).toUInt32).toInt32) &&& (3 : Int32)) % (3 : Int32))), .val (.int ((((i3.toUInt32 >>> ((4 : Int32) &&& 31).toUInt32).toInt32) &&& (3 : Int32)) % (3 : Int32))), .val (.ref ga), .val (.ref gb), .val (.ref gc), .unset] [(.ref b_115)])) _
          refine XS.astore X115.here hx rfl (hb hby at_65) rfl rfl (l' := #[.val (.int i0), .val (.int i1), .val (.int i2), .val (.int i3), .val (.int ((i3 &&& (3 : Int32)) % (3 : Int32))), .val (.int ((((i3.toUInt32 >>> ((2 : Int32) &&& 31).toUInt32).toInt32) &&& (3 : Int32)) % (3 : Int32))), .val (.int ((((i3.toUInt32 >>> ((4 : Int32) &&& 31).toUInt32).toInt32) &&& (3 : Int32)) % (3 : Int32))), .val (.ref ga), .val (.ref gb), .val (.ref gc), .val (.ref b_115)]) rfl ?_
          refine XS.aload X115.here hx rfl (hb hby at_67) rfl rfl ?_
          show Steps p.tables e below (T115.setTop (mkF m 69 #[.val (.int i0), .val (.int i1), .val (.int i2), .val (.int i3), .val (.int ((i3 &&& (3 : Int32)) % (3 : Int32))), .val (.int ((((i3.toUInt32 >>> ((2 : Int32) &&& 31).toUInt32).toInt32) &&& (3 : Int32)) % (3 : Int32))), .val (.int ((((i3.toUInt32 >>> ((4 : Int32) &&& 31).toUInt32).toInt32) &&& (3 : Int32)) % (3 : Int32))), .val (.ref ga), .val (.ref gb), .val (.ref gc), .val (.ref b_115)] [(.ref b_115)])) _
          refine XS.ifnonnullYes X115.here hx rfl (pc0 := 69) (pc' := 74) rfl (hb hby at_69) rfl (by decide) (by decide) ?_
          refine XS.aload X115.here hx rfl (hb hby at_74) rfl rfl ?_
          show Steps p.tables e below (T115.setTop (mkF m 76 #[.val (.int i0), .val (.int i1), .val (.int i2), .val (.int i3), .val (.int ((i3 &&& (3 : Int32)) % (3 : Int32))), .val (.int ((((i3.toUInt32 >>> ((2 : Int32) &&& 31).toUInt32).toInt32) &&& (3 : Int32)) % (3 : Int32))), .val (.int ((((i3.toUInt32 >>> ((4 : Int32) &&& 31).toUInt32).toInt32) &&& (3 : Int32)) % (3 : Int32))), .val (.ref ga), .val (.ref gb), .val (.ref gc), .val (.ref b_115)] [(.ref b_115)])) _
          exact kk)
        -- pc 76: String.length
        obtain ⟨cq118, kq118, q118a, q118b, q118c⟩ := isOf hZ rfl u115_1
        obtain ⟨_, _, ⟨T118, L118, k118, n118⟩, -, X118, ⟨Lc118, hQ118, l118, y118, z118⟩, st118⟩ := X115.virtualBack hx (y := (⟨"java/lang/String", "length", "()I"⟩ : MethodName)) (z := (⟨"java/lang/String", "length", "()I"⟩ : MethodName)) hown (mvT hZ (hw _ (mg (i := 175) rfl))) (mvT hZ (hw _ (mg (i := 93) rfl))) (notFace_of_selects (args := #[]) (mvT hZ (hw _ (mg (i := 95) rfl)))) (mvT hZ (hw _ (mg (i := 95) rfl))) (mvT hZ (hw _ (mg (i := 94) rfl))) (by decide) (backOf (W := 0) (slen l Z av0 hw [] b_115 vS_115 kS_115 ((((((0 : Int32) + zA) + (1 : Int32)) + zB) + (1 : Int32)) + zC) ((((([] ++ vA) ++ [(.int 47)]) ++ vB) ++ [(.int 47)]) ++ vC) cs T115.heap n0 (own_le O116) O116 p1_S (hcs : ¬ (cs = (0 : Int32))) u115_1 u115_2 u115_3 u115_4) hZ (hw _ (mg (i := 96) rfl)) (hw _ (mg (i := 6) rfl)) (by decide) (by decide)) q118a q118c (g := (mkF m 76 #[.val (.int i0), .val (.int i1), .val (.int i2), .val (.int i3), .val (.int ((i3 &&& (3 : Int32)) % (3 : Int32))), .val (.int ((((i3.toUInt32 >>> ((2 : Int32) &&& 31).toUInt32).toInt32) &&& (3 : Int32)) % (3 : Int32))), .val (.int ((((i3.toUInt32 >>> ((4 : Int32) &&& 31).toUInt32).toInt32) &&& (3 : Int32)) % (3 : Int32))), .val (.ref ga), .val (.ref gb), .val (.ref gc), .val (.ref b_115)] [(.ref b_115)])) rfl (by rw [hml]; rfl) (Steps.refl _) (argsL := []) (rest := []) (lenOf pd_13 rfl) rfl (by show 2 * 0 + _ ≤ _; exact Nat.le_of_eq rfl) (hb hby at_76) (fun vmx hWx => ⟨rfl, rfl, (by decide : 31 + 0 ≤ _), (by decide : 115 + 0 ≤ _)⟩)
        dsimp only [Pt.U, Pt.locs, Pt.cells, Pt.slots] at X118 l118 y118 z118 st118 hQ118
        subst l118 y118 z118
        obtain ⟨rv118, Nq118, Kq118⟩ := hQ118
        subst rv118
        have N118 := Fr.app N115 Nq118
        have pre119 : ∀ tz_, Steps p.tables e below (T118.setTop (mkF m 103 #[.val (.int i0), .val (.int i1), .val (.int i2), .val (.int i3), .val (.int ((i3 &&& (3 : Int32)) % (3 : Int32))), .val (.int ((((i3.toUInt32 >>> ((2 : Int32) &&& 31).toUInt32).toInt32) &&& (3 : Int32)) % (3 : Int32))), .val (.int ((((i3.toUInt32 >>> ((4 : Int32) &&& 31).toUInt32).toInt32) &&& (3 : Int32)) % (3 : Int32))), .val (.ref ga), .val (.ref gb), .val (.ref gc), .val (.ref b_115)] [(.int 0), (.ref gc), (.ref gb), (.ref ga), (.ref b_115)])) tz_ → Steps p.tables e below (s₁.setTop (entryFrame m #[(.int i0), (.int i1), (.int i2), (.int i3)] maxLocals)) tz_ := fun tz_ kk => pre117 tz_ (by
          refine st118.trans ?_
          refine XS.iload X118.here hx rfl (hb hby at_79) rfl ?_
          refine XS.iload X118.here hx rfl (hb hby at_81) rfl ?_
          show Steps p.tables e below (T118.setTop (mkF m 83 #[.val (.int i0), .val (.int i1), .val (.int i2), .val (.int i3), .val (.int ((i3 &&& (3 : Int32)) % (3 : Int32))), .val (.int ((((i3.toUInt32 >>> ((2 : Int32) &&& 31).toUInt32).toInt32) &&& (3 : Int32)) % (3 : Int32))), .val (.int ((((i3.toUInt32 >>> ((4 : Int32) &&& 31).toUInt32).toInt32) &&& (3 : Int32)) % (3 : Int32))), .val (.ref ga), .val (.ref gb), .val (.ref gc), .val (.ref b_115)] [(.int ((((i3.toUInt32 >>> ((2 : Int32) &&& 31).toUInt32).toInt32) &&& (3 : Int32)) % (3 : Int32))), (.int ((i3 &&& (3 : Int32)) % (3 : Int32))), (.int ((((((0 : Int32) + zA) + (1 : Int32)) + zB) + (1 : Int32)) + zC))])) _
          refine XS.iadd X118.here hx rfl (hb hby at_83) rfl ?_
          show Steps p.tables e below (T118.setTop (mkF m 84 #[.val (.int i0), .val (.int i1), .val (.int i2), .val (.int i3), .val (.int ((i3 &&& (3 : Int32)) % (3 : Int32))), .val (.int ((((i3.toUInt32 >>> ((2 : Int32) &&& 31).toUInt32).toInt32) &&& (3 : Int32)) % (3 : Int32))), .val (.int ((((i3.toUInt32 >>> ((4 : Int32) &&& 31).toUInt32).toInt32) &&& (3 : Int32)) % (3 : Int32))), .val (.ref ga), .val (.ref gb), .val (.ref gc), .val (.ref b_115)] [(.int (((i3 &&& (3 : Int32)) % (3 : Int32)) + ((((i3.toUInt32 >>> ((2 : Int32) &&& 31).toUInt32).toInt32) &&& (3 : Int32)) % (3 : Int32)))), (.int ((((((0 : Int32) + zA) + (1 : Int32)) + zB) + (1 : Int32)) + zC))])) _
          refine XS.iload X118.here hx rfl (hb hby at_84) rfl ?_
          show Steps p.tables e below (T118.setTop (mkF m 86 #[.val (.int i0), .val (.int i1), .val (.int i2), .val (.int i3), .val (.int ((i3 &&& (3 : Int32)) % (3 : Int32))), .val (.int ((((i3.toUInt32 >>> ((2 : Int32) &&& 31).toUInt32).toInt32) &&& (3 : Int32)) % (3 : Int32))), .val (.int ((((i3.toUInt32 >>> ((4 : Int32) &&& 31).toUInt32).toInt32) &&& (3 : Int32)) % (3 : Int32))), .val (.ref ga), .val (.ref gb), .val (.ref gc), .val (.ref b_115)] [(.int ((((i3.toUInt32 >>> ((4 : Int32) &&& 31).toUInt32).toInt32) &&& (3 : Int32)) % (3 : Int32))), (.int (((i3 &&& (3 : Int32)) % (3 : Int32)) + ((((i3.toUInt32 >>> ((2 : Int32) &&& 31).toUInt32).toInt32) &&& (3 : Int32)) % (3 : Int32)))), (.int ((((((0 : Int32) + zA) + (1 : Int32)) + zB) + (1 : Int32)) + zC))])) _
          refine XS.iadd X118.here hx rfl (hb hby at_86) rfl ?_
          refine XS.iconst X118.here hx rfl (hb hby at_87) ?_
          show Steps p.tables e below (T118.setTop (mkF m 88 #[.val (.int i0), .val (.int i1), .val (.int i2), .val (.int i3), .val (.int ((i3 &&& (3 : Int32)) % (3 : Int32))), .val (.int ((((i3.toUInt32 >>> ((2 : Int32) &&& 31).toUInt32).toInt32) &&& (3 : Int32)) % (3 : Int32))), .val (.int ((((i3.toUInt32 >>> ((4 : Int32) &&& 31).toUInt32).toInt32) &&& (3 : Int32)) % (3 : Int32))), .val (.ref ga), .val (.ref gb), .val (.ref gc), .val (.ref b_115)] [(.int 2), (.int ((((i3 &&& (3 : Int32)) % (3 : Int32)) + ((((i3.toUInt32 >>> ((2 : Int32) &&& 31).toUInt32).toInt32) &&& (3 : Int32)) % (3 : Int32))) + ((((i3.toUInt32 >>> ((4 : Int32) &&& 31).toUInt32).toInt32) &&& (3 : Int32)) % (3 : Int32)))), (.int ((((((0 : Int32) + zA) + (1 : Int32)) + zB) + (1 : Int32)) + zC))])) _
          refine XS.iadd X118.here hx rfl (hb hby at_88) rfl ?_
          show Steps p.tables e below (T118.setTop (mkF m 89 #[.val (.int i0), .val (.int i1), .val (.int i2), .val (.int i3), .val (.int ((i3 &&& (3 : Int32)) % (3 : Int32))), .val (.int ((((i3.toUInt32 >>> ((2 : Int32) &&& 31).toUInt32).toInt32) &&& (3 : Int32)) % (3 : Int32))), .val (.int ((((i3.toUInt32 >>> ((4 : Int32) &&& 31).toUInt32).toInt32) &&& (3 : Int32)) % (3 : Int32))), .val (.ref ga), .val (.ref gb), .val (.ref gc), .val (.ref b_115)] [(.int (((((i3 &&& (3 : Int32)) % (3 : Int32)) + ((((i3.toUInt32 >>> ((2 : Int32) &&& 31).toUInt32).toInt32) &&& (3 : Int32)) % (3 : Int32))) + ((((i3.toUInt32 >>> ((4 : Int32) &&& 31).toUInt32).toInt32) &&& (3 : Int32)) % (3 : Int32))) + (2 : Int32))), (.int ((((((0 : Int32) + zA) + (1 : Int32)) + zB) + (1 : Int32)) + zC))])) _
          refine XS.icmpYes X118.here hx rfl (pc0 := 89) (pc' := 94) rfl (hb hby at_89) rfl (teq (own_cnt hA hB hC hzA hzB hzC : ((((((0 : Int32) + zA) + (1 : Int32)) + zB) + (1 : Int32)) + zC) = (((((i3 &&& (3 : Int32)) % (3 : Int32)) + ((((i3.toUInt32 >>> ((2 : Int32) &&& 31).toUInt32).toInt32) &&& (3 : Int32)) % (3 : Int32))) + ((((i3.toUInt32 >>> ((4 : Int32) &&& 31).toUInt32).toInt32) &&& (3 : Int32)) % (3 : Int32))) + (2 : Int32)))).1 (by decide) (by decide) ?_
          refine XS.aload X118.here hx rfl (hb hby at_94) rfl rfl ?_
          refine XS.aload X118.here hx rfl (hb hby at_96) rfl rfl ?_
          refine XS.aload X118.here hx rfl (hb hby at_98) rfl rfl ?_
          show Steps p.tables e below (T118.setTop (mkF m 100 #[.val (.int i0), .val (.int i1), .val (.int i2), .val (.int i3), .val (.int ((i3 &&& (3 : Int32)) % (3 : Int32))), .val (.int ((((i3.toUInt32 >>> ((2 : Int32) &&& 31).toUInt32).toInt32) &&& (3 : Int32)) % (3 : Int32))), .val (.int ((((i3.toUInt32 >>> ((4 : Int32) &&& 31).toUInt32).toInt32) &&& (3 : Int32)) % (3 : Int32))), .val (.ref ga), .val (.ref gb), .val (.ref gc), .val (.ref b_115)] [(.ref gb), (.ref ga), (.ref b_115)])) _
          refine XS.aload X118.here hx rfl (hb hby at_100) rfl rfl ?_
          refine XS.iconst X118.here hx rfl (hb hby at_102) ?_
          show Steps p.tables e below (T118.setTop (mkF m 103 #[.val (.int i0), .val (.int i1), .val (.int i2), .val (.int i3), .val (.int ((i3 &&& (3 : Int32)) % (3 : Int32))), .val (.int ((((i3.toUInt32 >>> ((2 : Int32) &&& 31).toUInt32).toInt32) &&& (3 : Int32)) % (3 : Int32))), .val (.int ((((i3.toUInt32 >>> ((4 : Int32) &&& 31).toUInt32).toInt32) &&& (3 : Int32)) % (3 : Int32))), .val (.ref ga), .val (.ref gb), .val (.ref gc), .val (.ref b_115)] [(.int 0), (.ref gc), (.ref gb), (.ref ga), (.ref b_115)])) _
          exact kk)
        have f120 := (f97.keep Kq115)
        have f121 := (f99.keep Kq115 nin0)
        have f122 := (f100.keep Kq115 nin0)
        have f123 := (f102.keep Kq115 nin0)
        have f124 := (f103.keep Kq115)
        have f125 := (f105.keep Kq115 nin0)
        have f126 := (f106.keep Kq115 nin0)
        have f127 := (f108.keep Kq115 nin0)
        have f128 := (f109.keep Kq115)
        have f129 := (f111.keep Kq115 nin0)
        have f130 := (f112.keep Kq115 nin0)
        have f131 := (f114.keep Kq115 nin0)
        -- pc 103: KeyToStringPinLaw.ok
        obtain ⟨_, _, ⟨T132, L132, k132, n132⟩, -, X132, ⟨Lc132, hQ132, l132, y132, z132⟩, st132⟩ := Jvm.LawKit.callS X118 hx (y := (⟨"com/example/ledgerline/ledgerline/KeyToStringPinLaw", "ok", "(Ljava/lang/String;Ljava/lang/String;Ljava/lang/String;Ljava/lang/String;I)Z"⟩ : MethodName)) hown (mvT hZ (hw _ (mg (i := 176) rfl))) (mvT hZ (hw _ (mg (i := 177) rfl))) (mvT hZ (hw _ (mg (i := 2) rfl))) (mvT hZ (hw _ (mg (i := 178) rfl))) (by decide) (backOf (W := 0) (okk l Z av0 hw [] b_115 ga gb gc (0 : Int32) vS_115 kS_115 ((((((0 : Int32) + zA) + (1 : Int32)) + zB) + (1 : Int32)) + zC) ((((([] ++ vA) ++ [(.int 47)]) ++ vB) ++ [(.int 47)]) ++ vC) va ka zA vA vb kb zB vB vc kc zC vC xA xB xC fm cs T115.heap n0 (own_le O116) O116 p1_S (hcs : ¬ (cs = (0 : Int32))) p3_S p4_r u115_1 u115_2 u115_3 u115_4 f120 f121 f122 f123 f124 f125 f126 f127 f128 f129 f130 f131 (hA : Ln zA vA 2) (hB : Ln zB vB 2) (hC : Ln zC vC 2) (hxA : vA = xA.map Value.int) (hxB : vB = xB.map Value.int) (hxC : vC = xC.map Value.int) ((Ln.mono (Ln.add (Ln.add (Ln.add (Ln.add (Ln.add Ln.nil hA (by decide)) (⟨by decide, rfl, by decide⟩ : Ln (1 : Int32) [(.int 47)] 1) (by decide)) hB (by decide)) (⟨by decide, rfl, by decide⟩ : Ln (1 : Int32) [(.int 47)] 1) (by decide)) hC (by decide)) (by decide)) : Ln ((((((0 : Int32) + zA) + (1 : Int32)) + zB) + (1 : Int32)) + zC) ((((([] ++ vA) ++ [(.int 47)]) ++ vB) ++ [(.int 47)]) ++ vC) 8) (own_totv hxA hxB hxC : ((((([] ++ vA) ++ [(.int 47)]) ++ vB) ++ [(.int 47)]) ++ vC) = (Tot xA xB xC).map Value.int) ((by decide) : ¬ ((0 : Int32) < (0 : Int32)))) hZ (hw _ (mg (i := 178) rfl)) (hw _ (mg (i := 2) rfl)) (by decide) (by decide)) (g := (mkF m 103 #[.val (.int i0), .val (.int i1), .val (.int i2), .val (.int i3), .val (.int ((i3 &&& (3 : Int32)) % (3 : Int32))), .val (.int ((((i3.toUInt32 >>> ((2 : Int32) &&& 31).toUInt32).toInt32) &&& (3 : Int32)) % (3 : Int32))), .val (.int ((((i3.toUInt32 >>> ((4 : Int32) &&& 31).toUInt32).toInt32) &&& (3 : Int32)) % (3 : Int32))), .val (.ref ga), .val (.ref gb), .val (.ref gc), .val (.ref b_115)] [(.int 0), (.ref gc), (.ref gb), (.ref ga), (.ref b_115)])) rfl (by rw [hml]; rfl) (argsL := [(.ref b_115), (.ref ga), (.ref gb), (.ref gc), (.int 0)]) (rest := []) (lenOf pd_26 rfl) rfl (by show 2 * 0 + _ ≤ _; exact Nat.le_of_eq rfl) (hb hby at_103) (fun vmx hWx => ⟨rfl, Kq118, (by decide : 31 + 0 ≤ _), (by decide : 115 + 0 ≤ _)⟩)
        dsimp only [Pt.U, Pt.locs, Pt.cells, Pt.slots] at X132 l132 y132 z132 st132 hQ132
        subst l132 y132 z132
        obtain ⟨rv132, Nq132, Kq132⟩ := hQ132
        subst rv132
        have N132 := Fr.app N118 Nq132
        have pre133 : ∀ tz_, Steps p.tables e below (T132.setTop (mkF m 118 #[.val (.int i0), .val (.int i1), .val (.int i2), .val (.int i3), .val (.int ((i3 &&& (3 : Int32)) % (3 : Int32))), .val (.int ((((i3.toUInt32 >>> ((2 : Int32) &&& 31).toUInt32).toInt32) &&& (3 : Int32)) % (3 : Int32))), .val (.int ((((i3.toUInt32 >>> ((4 : Int32) &&& 31).toUInt32).toInt32) &&& (3 : Int32)) % (3 : Int32))), .val (.ref ga), .val (.ref gb), .val (.ref gc), .val (.ref b_115)] [(.int 1), (.ref gc), (.ref gb), (.ref ga), (.ref b_115)])) tz_ → Steps p.tables e below (s₁.setTop (entryFrame m #[(.int i0), (.int i1), (.int i2), (.int i3)] maxLocals)) tz_ := fun tz_ kk => pre119 tz_ (by
          refine st132 _ ?_
          show Steps p.tables e below (T132.setTop (mkF m 106 #[.val (.int i0), .val (.int i1), .val (.int i2), .val (.int i3), .val (.int ((i3 &&& (3 : Int32)) % (3 : Int32))), .val (.int ((((i3.toUInt32 >>> ((2 : Int32) &&& 31).toUInt32).toInt32) &&& (3 : Int32)) % (3 : Int32))), .val (.int ((((i3.toUInt32 >>> ((4 : Int32) &&& 31).toUInt32).toInt32) &&& (3 : Int32)) % (3 : Int32))), .val (.ref ga), .val (.ref gb), .val (.ref gc), .val (.ref b_115)] [(.int 1)])) _
          refine XS.ifNo X132.here hx rfl (hb hby at_106) rfl ((if0 _ _).trans (feq (by decide : ¬ ((1 : Int32) = (0 : Int32)))).1) ?_
          show Steps p.tables e below (T132.setTop (mkF m 109 #[.val (.int i0), .val (.int i1), .val (.int i2), .val (.int i3), .val (.int ((i3 &&& (3 : Int32)) % (3 : Int32))), .val (.int ((((i3.toUInt32 >>> ((2 : Int32) &&& 31).toUInt32).toInt32) &&& (3 : Int32)) % (3 : Int32))), .val (.int ((((i3.toUInt32 >>> ((4 : Int32) &&& 31).toUInt32).toInt32) &&& (3 : Int32)) % (3 : Int32))), .val (.ref ga), .val (.ref gb), .val (.ref gc), .val (.ref b_115)] [])) _
          refine XS.aload X132.here hx rfl (hb hby at_109) rfl rfl ?_
          refine XS.aload X132.here hx rfl (hb hby at_111) rfl rfl ?_
          refine XS.aload X132.here hx rfl (hb hby at_113) rfl rfl ?_
          refine XS.aload X132.here hx rfl (hb hby at_115) rfl rfl ?_
          show Steps p.tables e below (T132.setTop (mkF m 117 #[.val (.int i0), .val (.int i1), .val (.int i2), .val (.int i3), .val (.int ((i3 &&& (3 : Int32)) % (3 : Int32))), .val (.int ((((i3.toUInt32 >>> ((2 : Int32) &&& 31).toUInt32).toInt32) &&& (3 : Int32)) % (3 : Int32))), .val (.int ((((i3.toUInt32 >>> ((4 : Int32) &&& 31).toUInt32).toInt32) &&& (3 : Int32)) % (3 : Int32))), .val (.ref ga), .val (.ref gb), .val (.ref gc), .val (.ref b_115)] [(.ref gc), (.ref gb), (.ref ga), (.ref b_115)])) _
          refine XS.iconst X132.here hx rfl (hb hby at_117) ?_
          show Steps p.tables e below (T132.setTop (mkF m 118 #[.val (.int i0), .val (.int i1), .val (.int i2), .val (.int i3), .val (.int ((i3 &&& (3 : Int32)) % (3 : Int32))), .val (.int ((((i3.toUInt32 >>> ((2 : Int32) &&& 31).toUInt32).toInt32) &&& (3 : Int32)) % (3 : Int32))), .val (.int ((((i3.toUInt32 >>> ((4 : Int32) &&& 31).toUInt32).toInt32) &&& (3 : Int32)) % (3 : Int32))), .val (.ref ga), .val (.ref gb), .val (.ref gc), .val (.ref b_115)] [(.int 1), (.ref gc), (.ref gb), (.ref ga), (.ref b_115)])) _
          exact kk)
        -- pc 118: KeyToStringPinLaw.ok
        obtain ⟨_, _, ⟨T134, L134, k134, n134⟩, -, X134, ⟨Lc134, hQ134, l134, y134, z134⟩, st134⟩ := Jvm.LawKit.callS X132 hx (y := (⟨"com/example/ledgerline/ledgerline/KeyToStringPinLaw", "ok", "(Ljava/lang/String;Ljava/lang/String;Ljava/lang/String;Ljava/lang/String;I)Z"⟩ : MethodName)) hown (mvT hZ (hw _ (mg (i := 176) rfl))) (mvT hZ (hw _ (mg (i := 177) rfl))) (mvT hZ (hw _ (mg (i := 2) rfl))) (mvT hZ (hw _ (mg (i := 178) rfl))) (by decide) (backOf (W := 0) (okk l Z av0 hw [] b_115 ga gb gc (1 : Int32) vS_115 kS_115 ((((((0 : Int32) + zA) + (1 : Int32)) + zB) + (1 : Int32)) + zC) ((((([] ++ vA) ++ [(.int 47)]) ++ vB) ++ [(.int 47)]) ++ vC) va ka zA vA vb kb zB vB vc kc zC vC xA xB xC fm cs T115.heap n0 (own_le O116) O116 p1_S (hcs : ¬ (cs = (0 : Int32))) p3_S p4_r u115_1 u115_2 u115_3 u115_4 f120 f121 f122 f123 f124 f125 f126 f127 f128 f129 f130 f131 (hA : Ln zA vA 2) (hB : Ln zB vB 2) (hC : Ln zC vC 2) (hxA : vA = xA.map Value.int) (hxB : vB = xB.map Value.int) (hxC : vC = xC.map Value.int) ((Ln.mono (Ln.add (Ln.add (Ln.add (Ln.add (Ln.add Ln.nil hA (by decide)) (⟨by decide, rfl, by decide⟩ : Ln (1 : Int32) [(.int 47)] 1) (by decide)) hB (by decide)) (⟨by decide, rfl, by decide⟩ : Ln (1 : Int32) [(.int 47)] 1) (by decide)) hC (by decide)) (by decide)) : Ln ((((((0 : Int32) + zA) + (1 : Int32)) + zB) + (1 : Int32)) + zC) ((((([] ++ vA) ++ [(.int 47)]) ++ vB) ++ [(.int 47)]) ++ vC) 8) (own_totv hxA hxB hxC : ((((([] ++ vA) ++ [(.int 47)]) ++ vB) ++ [(.int 47)]) ++ vC) = (Tot xA xB xC).map Value.int) ((by decide) : ¬ ((1 : Int32) < (0 : Int32)))) hZ (hw _ (mg (i := 178) rfl)) (hw _ (mg (i := 2) rfl)) (by decide) (by decide)) (g := (mkF m 118 #[.val (.int i0), .val (.int i1), .val (.int i2), .val (.int i3), .val (.int ((i3 &&& (3 : Int32)) % (3 : Int32))), .val (.int ((((i3.toUInt32 >>> ((2 : Int32) &&& 31).toUInt32).toInt32) &&& (3 : Int32)) % (3 : Int32))), .val (.int ((((i3.toUInt32 >>> ((4 : Int32) &&& 31).toUInt32).toInt32) &&& (3 : Int32)) % (3 : Int32))), .val (.ref ga), .val (.ref gb), .val (.ref gc), .val (.ref b_115)] [(.int 1), (.ref gc), (.ref gb), (.ref ga), (.ref b_115)])) rfl (by rw [hml]; rfl) (argsL := [(.ref b_115), (.ref ga), (.ref gb), (.ref gc), (.int 1)]) (rest := []) (lenOf pd_26 rfl) rfl (by show 2 * 0 + _ ≤ _; exact Nat.le_of_eq rfl) (hb hby at_118) (fun vmx hWx => ⟨rfl, Kq132, (by decide : 31 + 0 ≤ _), (by decide : 115 + 0 ≤ _)⟩)
        dsimp only [Pt.U, Pt.locs, Pt.cells, Pt.slots] at X134 l134 y134 z134 st134 hQ134
        subst l134 y134 z134
        obtain ⟨rv134, Nq134, Kq134⟩ := hQ134
        subst rv134
        have N134 := Fr.app N132 Nq134
        have pre135 : ∀ tz_, Steps p.tables e below (T134.setTop (mkF m 133 #[.val (.int i0), .val (.int i1), .val (.int i2), .val (.int i3), .val (.int ((i3 &&& (3 : Int32)) % (3 : Int32))), .val (.int ((((i3.toUInt32 >>> ((2 : Int32) &&& 31).toUInt32).toInt32) &&& (3 : Int32)) % (3 : Int32))), .val (.int ((((i3.toUInt32 >>> ((4 : Int32) &&& 31).toUInt32).toInt32) &&& (3 : Int32)) % (3 : Int32))), .val (.ref ga), .val (.ref gb), .val (.ref gc), .val (.ref b_115)] [(.int 2), (.ref gc), (.ref gb), (.ref ga), (.ref b_115)])) tz_ → Steps p.tables e below (s₁.setTop (entryFrame m #[(.int i0), (.int i1), (.int i2), (.int i3)] maxLocals)) tz_ := fun tz_ kk => pre133 tz_ (by
          refine st134 _ ?_
          show Steps p.tables e below (T134.setTop (mkF m 121 #[.val (.int i0), .val (.int i1), .val (.int i2), .val (.int i3), .val (.int ((i3 &&& (3 : Int32)) % (3 : Int32))), .val (.int ((((i3.toUInt32 >>> ((2 : Int32) &&& 31).toUInt32).toInt32) &&& (3 : Int32)) % (3 : Int32))), .val (.int ((((i3.toUInt32 >>> ((4 : Int32) &&& 31).toUInt32).toInt32) &&& (3 : Int32)) % (3 : Int32))), .val (.ref ga), .val (.ref gb), .val (.ref gc), .val (.ref b_115)] [(.int 1)])) _
          refine XS.ifNo X134.here hx rfl (hb hby at_121) rfl ((if0 _ _).trans (feq (by decide : ¬ ((1 : Int32) = (0 : Int32)))).1) ?_
          refine XS.aload X134.here hx rfl (hb hby at_124) rfl rfl ?_
          show Steps p.tables e below (T134.setTop (mkF m 126 #[.val (.int i0), .val (.int i1), .val (.int i2), .val (.int i3), .val (.int ((i3 &&& (3 : Int32)) % (3 : Int32))), .val (.int ((((i3.toUInt32 >>> ((2 : Int32) &&& 31).toUInt32).toInt32) &&& (3 : Int32)) % (3 : Int32))), .val (.int ((((i3.toUInt32 >>> ((4 : Int32) &&& 31).toUInt32).toInt32) &&& (3 : Int32)) % (3 : Int32))), .val (.ref ga), .val (.ref gb), .val (.ref gc), .val (.ref b_115)] [(.ref b_115)])) _
          refine XS.aload X134.here hx rfl (hb hby at_126) rfl rfl ?_
          refine XS.aload X134.here hx rfl (hb hby at_128) rfl rfl ?_
          refine XS.aload X134.here hx rfl (hb hby at_130) rfl rfl ?_
          refine XS.iconst X134.here hx rfl (hb hby at_132) ?_
          show Steps p.tables e below (T134.setTop (mkF m 133 #[.val (.int i0), .val (.int i1), .val (.int i2), .val (.int i3), .val (.int ((i3 &&& (3 : Int32)) % (3 : Int32))), .val (.int ((((i3.toUInt32 >>> ((2 : Int32) &&& 31).toUInt32).toInt32) &&& (3 : Int32)) % (3 : Int32))), .val (.int ((((i3.toUInt32 >>> ((4 : Int32) &&& 31).toUInt32).toInt32) &&& (3 : Int32)) % (3 : Int32))), .val (.ref ga), .val (.ref gb), .val (.ref gc), .val (.ref b_115)] [(.int 2), (.ref gc), (.ref gb), (.ref ga), (.ref b_115)])) _
          exact kk)
        -- pc 133: KeyToStringPinLaw.ok
        obtain ⟨_, _, ⟨T136, L136, k136, n136⟩, -, X136, ⟨Lc136, hQ136, l136, y136, z136⟩, st136⟩ := Jvm.LawKit.callS X134 hx (y := (⟨"com/example/ledgerline/ledgerline/KeyToStringPinLaw", "ok", "(Ljava/lang/String;Ljava/lang/String;Ljava/lang/String;Ljava/lang/String;I)Z"⟩ : MethodName)) hown (mvT hZ (hw _ (mg (i := 176) rfl))) (mvT hZ (hw _ (mg (i := 177) rfl))) (mvT hZ (hw _ (mg (i := 2) rfl))) (mvT hZ (hw _ (mg (i := 178) rfl))) (by decide) (backOf (W := 0) (okk l Z av0 hw [] b_115 ga gb gc (2 : Int32) vS_115 kS_115 ((((((0 : Int32) + zA) + (1 : Int32)) + zB) + (1 : Int32)) + zC) ((((([] ++ vA) ++ [(.int 47)]) ++ vB) ++ [(.int 47)]) ++ vC) va ka zA vA vb kb zB vB vc kc zC vC xA xB xC fm cs T115.heap n0 (own_le O116) O116 p1_S (hcs : ¬ (cs = (0 : Int32))) p3_S p4_r u115_1 u115_2 u115_3 u115_4 f120 f121 f122 f123 f124 f125 f126 f127 f128 f129 f130 f131 (hA : Ln zA vA 2) (hB : Ln zB vB 2) (hC : Ln zC vC 2) (hxA : vA = xA.map Value.int) (hxB : vB = xB.map Value.int) (hxC : vC = xC.map Value.int) ((Ln.mono (Ln.add (Ln.add (Ln.add (Ln.add (Ln.add Ln.nil hA (by decide)) (⟨by decide, rfl, by decide⟩ : Ln (1 : Int32) [(.int 47)] 1) (by decide)) hB (by decide)) (⟨by decide, rfl, by decide⟩ : Ln (1 : Int32) [(.int 47)] 1) (by decide)) hC (by decide)) (by decide)) : Ln ((((((0 : Int32) + zA) + (1 : Int32)) + zB) + (1 : Int32)) + zC) ((((([] ++ vA) ++ [(.int 47)]) ++ vB) ++ [(.int 47)]) ++ vC) 8) (own_totv hxA hxB hxC : ((((([] ++ vA) ++ [(.int 47)]) ++ vB) ++ [(.int 47)]) ++ vC) = (Tot xA xB xC).map Value.int) ((by decide) : ¬ ((2 : Int32) < (0 : Int32)))) hZ (hw _ (mg (i := 178) rfl)) (hw _ (mg (i := 2) rfl)) (by decide) (by decide)) (g := (mkF m 133 #[.val (.int i0), .val (.int i1), .val (.int i2), .val (.int i3), .val (.int ((i3 &&& (3 : Int32)) % (3 : Int32))), .val (.int ((((i3.toUInt32 >>> ((2 : Int32) &&& 31).toUInt32).toInt32) &&& (3 : Int32)) % (3 : Int32))), .val (.int ((((i3.toUInt32 >>> ((4 : Int32) &&& 31).toUInt32).toInt32) &&& (3 : Int32)) % (3 : Int32))), .val (.ref ga), .val (.ref gb), .val (.ref gc), .val (.ref b_115)] [(.int 2), (.ref gc), (.ref gb), (.ref ga), (.ref b_115)])) rfl (by rw [hml]; rfl) (argsL := [(.ref b_115), (.ref ga), (.ref gb), (.ref gc), (.int 2)]) (rest := []) (lenOf pd_26 rfl) rfl (by show 2 * 0 + _ ≤ _; exact Nat.le_of_eq rfl) (hb hby at_133) (fun vmx hWx => ⟨rfl, Kq134, (by decide : 31 + 0 ≤ _), (by decide : 115 + 0 ≤ _)⟩)
        dsimp only [Pt.U, Pt.locs, Pt.cells, Pt.slots] at X136 l136 y136 z136 st136 hQ136
        subst l136 y136 z136
        obtain ⟨rv136, Nq136, Kq136⟩ := hQ136
        subst rv136
        have N136 := Fr.app N134 Nq136
        have pre137 : ∀ tz_, Steps p.tables e below (T136.setTop (mkF m 148 #[.val (.int i0), .val (.int i1), .val (.int i2), .val (.int i3), .val (.int ((i3 &&& (3 : Int32)) % (3 : Int32))), .val (.int ((((i3.toUInt32 >>> ((2 : Int32) &&& 31).toUInt32).toInt32) &&& (3 : Int32)) % (3 : Int32))), .val (.int ((((i3.toUInt32 >>> ((4 : Int32) &&& 31).toUInt32).toInt32) &&& (3 : Int32)) % (3 : Int32))), .val (.ref ga), .val (.ref gb), .val (.ref gc), .val (.ref b_115)] [(.int 3), (.ref gc), (.ref gb), (.ref ga), (.ref b_115)])) tz_ → Steps p.tables e below (s₁.setTop (entryFrame m #[(.int i0), (.int i1), (.int i2), (.int i3)] maxLocals)) tz_ := fun tz_ kk => pre135 tz_ (by
          refine st136 _ ?_
          show Steps p.tables e below (T136.setTop (mkF m 136 #[.val (.int i0), .val (.int i1), .val (.int i2), .val (.int i3), .val (.int ((i3 &&& (3 : Int32)) % (3 : Int32))), .val (.int ((((i3.toUInt32 >>> ((2 : Int32) &&& 31).toUInt32).toInt32) &&& (3 : Int32)) % (3 : Int32))), .val (.int ((((i3.toUInt32 >>> ((4 : Int32) &&& 31).toUInt32).toInt32) &&& (3 : Int32)) % (3 : Int32))), .val (.ref ga), .val (.ref gb), .val (.ref gc), .val (.ref b_115)] [(.int 1)])) _
          refine XS.ifNo X136.here hx rfl (hb hby at_136) rfl ((if0 _ _).trans (feq (by decide : ¬ ((1 : Int32) = (0 : Int32)))).1) ?_
          refine XS.aload X136.here hx rfl (hb hby at_139) rfl rfl ?_
          refine XS.aload X136.here hx rfl (hb hby at_141) rfl rfl ?_
          show Steps p.tables e below (T136.setTop (mkF m 143 #[.val (.int i0), .val (.int i1), .val (.int i2), .val (.int i3), .val (.int ((i3 &&& (3 : Int32)) % (3 : Int32))), .val (.int ((((i3.toUInt32 >>> ((2 : Int32) &&& 31).toUInt32).toInt32) &&& (3 : Int32)) % (3 : Int32))), .val (.int ((((i3.toUInt32 >>> ((4 : Int32) &&& 31).toUInt32).toInt32) &&& (3 : Int32)) % (3 : Int32))), .val (.ref ga), .val (.ref gb), .val (.ref gc), .val (.ref b_115)] [(.ref ga), (.ref b_115)])) _
          refine XS.aload X136.here hx rfl (hb hby at_143) rfl rfl ?_
          refine XS.aload X136.here hx rfl (hb hby at_145) rfl rfl ?_
          refine XS.iconst X136.here hx rfl (hb hby at_147) ?_
          show Steps p.tables e below (T136.setTop (mkF m 148 #[.val (.int i0), .val (.int i1), .val (.int i2), .val (.int i3), .val (.int ((i3 &&& (3 : Int32)) % (3 : Int32))), .val (.int ((((i3.toUInt32 >>> ((2 : Int32) &&& 31).toUInt32).toInt32) &&& (3 : Int32)) % (3 : Int32))), .val (.int ((((i3.toUInt32 >>> ((4 : Int32) &&& 31).toUInt32).toInt32) &&& (3 : Int32)) % (3 : Int32))), .val (.ref ga), .val (.ref gb), .val (.ref gc), .val (.ref b_115)] [(.int 3), (.ref gc), (.ref gb), (.ref ga), (.ref b_115)])) _
          exact kk)
        -- pc 148: KeyToStringPinLaw.ok
        obtain ⟨_, _, ⟨T138, L138, k138, n138⟩, -, X138, ⟨Lc138, hQ138, l138, y138, z138⟩, st138⟩ := Jvm.LawKit.callS X136 hx (y := (⟨"com/example/ledgerline/ledgerline/KeyToStringPinLaw", "ok", "(Ljava/lang/String;Ljava/lang/String;Ljava/lang/String;Ljava/lang/String;I)Z"⟩ : MethodName)) hown (mvT hZ (hw _ (mg (i := 176) rfl))) (mvT hZ (hw _ (mg (i := 177) rfl))) (mvT hZ (hw _ (mg (i := 2) rfl))) (mvT hZ (hw _ (mg (i := 178) rfl))) (by decide) (backOf (W := 0) (okk l Z av0 hw [] b_115 ga gb gc (3 : Int32) vS_115 kS_115 ((((((0 : Int32) + zA) + (1 : Int32)) + zB) + (1 : Int32)) + zC) ((((([] ++ vA) ++ [(.int 47)]) ++ vB) ++ [(.int 47)]) ++ vC) va ka zA vA vb kb zB vB vc kc zC vC xA xB xC fm cs T115.heap n0 (own_le O116) O116 p1_S (hcs : ¬ (cs = (0 : Int32))) p3_S p4_r u115_1 u115_2 u115_3 u115_4 f120 f121 f122 f123 f124 f125 f126 f127 f128 f129 f130 f131 (hA : Ln zA vA 2) (hB : Ln zB vB 2) (hC : Ln zC vC 2) (hxA : vA = xA.map Value.int) (hxB : vB = xB.map Value.int) (hxC : vC = xC.map Value.int) ((Ln.mono (Ln.add (Ln.add (Ln.add (Ln.add (Ln.add Ln.nil hA (by decide)) (⟨by decide, rfl, by decide⟩ : Ln (1 : Int32) [(.int 47)] 1) (by decide)) hB (by decide)) (⟨by decide, rfl, by decide⟩ : Ln (1 : Int32) [(.int 47)] 1) (by decide)) hC (by decide)) (by decide)) : Ln ((((((0 : Int32) + zA) + (1 : Int32)) + zB) + (1 : Int32)) + zC) ((((([] ++ vA) ++ [(.int 47)]) ++ vB) ++ [(.int 47)]) ++ vC) 8) (own_totv hxA hxB hxC : ((((([] ++ vA) ++ [(.int 47)]) ++ vB) ++ [(.int 47)]) ++ vC) = (Tot xA xB xC).map Value.int) ((by decide) : ¬ ((3 : Int32) < (0 : Int32)))) hZ (hw _ (mg (i := 178) rfl)) (hw _ (mg (i := 2) rfl)) (by decide) (by decide)) (g := (mkF m 148 #[.val (.int i0), .val (.int i1), .val (.int i2), .val (.int i3), .val (.int ((i3 &&& (3 : Int32)) % (3 : Int32))), .val (.int ((((i3.toUInt32 >>> ((2 : Int32) &&& 31).toUInt32).toInt32) &&& (3 : Int32)) % (3 : Int32))), .val (.int ((((i3.toUInt32 >>> ((4 : Int32) &&& 31).toUInt32).toInt32) &&& (3 : Int32)) % (3 : Int32))), .val (.ref ga), .val (.ref gb), .val (.ref gc), .val (.ref b_115)] [(.int 3), (.ref gc), (.ref gb), (.ref ga), (.ref b_115)])) rfl (by rw [hml]; rfl) (argsL := [(.ref b_115), (.ref ga), (.ref gb), (.ref gc), (.int 3)]) (rest := []) (lenOf pd_26 rfl) rfl (by show 2 * 0 + _ ≤ _; exact Nat.le_of_eq rfl) (hb hby at_148) (fun vmx hWx => ⟨rfl, Kq136, (by decide : 31 + 0 ≤ _), (by decide : 115 + 0 ≤ _)⟩)
        dsimp only [Pt.U, Pt.locs, Pt.cells, Pt.slots] at X138 l138 y138 z138 st138 hQ138
        subst l138 y138 z138
        obtain ⟨rv138, Nq138, Kq138⟩ := hQ138
        subst rv138
        have N138 := Fr.app N136 Nq138
        have pre139 : ∀ tz_, Steps p.tables e below (T138.setTop (mkF m 163 #[.val (.int i0), .val (.int i1), .val (.int i2), .val (.int i3), .val (.int ((i3 &&& (3 : Int32)) % (3 : Int32))), .val (.int ((((i3.toUInt32 >>> ((2 : Int32) &&& 31).toUInt32).toInt32) &&& (3 : Int32)) % (3 : Int32))), .val (.int ((((i3.toUInt32 >>> ((4 : Int32) &&& 31).toUInt32).toInt32) &&& (3 : Int32)) % (3 : Int32))), .val (.ref ga), .val (.ref gb), .val (.ref gc), .val (.ref b_115)] [(.int 4), (.ref gc), (.ref gb), (.ref ga), (.ref b_115)])) tz_ → Steps p.tables e below (s₁.setTop (entryFrame m #[(.int i0), (.int i1), (.int i2), (.int i3)] maxLocals)) tz_ := fun tz_ kk => pre137 tz_ (by
          refine st138 _ ?_
          show Steps p.tables e below (T138.setTop (mkF m 151 #[.val (.int i0), .val (.int i1), .val (.int i2), .val (.int i3), .val (.int ((i3 &&& (3 : Int32)) % (3 : Int32))), .val (.int ((((i3.toUInt32 >>> ((2 : Int32) &&& 31).toUInt32).toInt32) &&& (3 : Int32)) % (3 : Int32))), .val (.int ((((i3.toUInt32 >>> ((4 : Int32) &&& 31).toUInt32).toInt32) &&& (3 : Int32)) % (3 : Int32))), .val (.ref ga), .val (.ref gb), .val (.ref gc), .val (.ref b_115)] [(.int 1)])) _
          refine XS.ifNo X138.here hx rfl (hb hby at_151) rfl ((if0 _ _).trans (feq (by decide : ¬ ((1 : Int32) = (0 : Int32)))).1) ?_
          refine XS.aload X138.here hx rfl (hb hby at_154) rfl rfl ?_
          refine XS.aload X138.here hx rfl (hb hby at_156) rfl rfl ?_
          refine XS.aload X138.here hx rfl (hb hby at_158) rfl rfl ?_
          show Steps p.tables e below (T138.setTop (mkF m 160 #[.val (.int i0), .val (.int i1), .val (.int i2), .val (.int i3), .val (.int ((i3 &&& (3 : Int32)) % (3 : Int32))), .val (.int ((((i3.toUInt32 >>> ((2 : Int32) &&& 31).toUInt32).toInt32) &&& (3 : Int32)) % (3 : Int32))), .val (.int ((((i3.toUInt32 >>> ((4 : Int32) &&& 31).toUInt32).toInt32) &&& (3 : Int32)) % (3 : Int32))), .val (.ref ga), .val (.ref gb), .val (.ref gc), .val (.ref b_115)] [(.ref gb), (.ref ga), (.ref b_115)])) _
          refine XS.aload X138.here hx rfl (hb hby at_160) rfl rfl ?_
          refine XS.iconst X138.here hx rfl (hb hby at_162) ?_
          show Steps p.tables e below (T138.setTop (mkF m 163 #[.val (.int i0), .val (.int i1), .val (.int i2), .val (.int i3), .val (.int ((i3 &&& (3 : Int32)) % (3 : Int32))), .val (.int ((((i3.toUInt32 >>> ((2 : Int32) &&& 31).toUInt32).toInt32) &&& (3 : Int32)) % (3 : Int32))), .val (.int ((((i3.toUInt32 >>> ((4 : Int32) &&& 31).toUInt32).toInt32) &&& (3 : Int32)) % (3 : Int32))), .val (.ref ga), .val (.ref gb), .val (.ref gc), .val (.ref b_115)] [(.int 4), (.ref gc), (.ref gb), (.ref ga), (.ref b_115)])) _
          exact kk)
        -- pc 163: KeyToStringPinLaw.ok
        obtain ⟨_, _, ⟨T140, L140, k140, n140⟩, -, X140, ⟨Lc140, hQ140, l140, y140, z140⟩, st140⟩ := Jvm.LawKit.callS X138 hx (y := (⟨"com/example/ledgerline/ledgerline/KeyToStringPinLaw", "ok", "(Ljava/lang/String;Ljava/lang/String;Ljava/lang/String;Ljava/lang/String;I)Z"⟩ : MethodName)) hown (mvT hZ (hw _ (mg (i := 176) rfl))) (mvT hZ (hw _ (mg (i := 177) rfl))) (mvT hZ (hw _ (mg (i := 2) rfl))) (mvT hZ (hw _ (mg (i := 178) rfl))) (by decide) (backOf (W := 0) (okk l Z av0 hw [] b_115 ga gb gc (4 : Int32) vS_115 kS_115 ((((((0 : Int32) + zA) + (1 : Int32)) + zB) + (1 : Int32)) + zC) ((((([] ++ vA) ++ [(.int 47)]) ++ vB) ++ [(.int 47)]) ++ vC) va ka zA vA vb kb zB vB vc kc zC vC xA xB xC fm cs T115.heap n0 (own_le O116) O116 p1_S (hcs : ¬ (cs = (0 : Int32))) p3_S p4_r u115_1 u115_2 u115_3 u115_4 f120 f121 f122 f123 f124 f125 f126 f127 f128 f129 f130 f131 (hA : Ln zA vA 2) (hB : Ln zB vB 2) (hC : Ln zC vC 2) (hxA : vA = xA.map Value.int) (hxB : vB = xB.map Value.int) (hxC : vC = xC.map Value.int) ((Ln.mono (Ln.add (Ln.add (Ln.add (Ln.add (Ln.add Ln.nil hA (by decide)) (⟨by decide, rfl, by decide⟩ : Ln (1 : Int32) [(.int 47)] 1) (by decide)) hB (by decide)) (⟨by decide, rfl, by decide⟩ : Ln (1 : Int32) [(.int 47)] 1) (by decide)) hC (by decide)) (by decide)) : Ln ((((((0 : Int32) + zA) + (1 : Int32)) + zB) + (1 : Int32)) + zC) ((((([] ++ vA) ++ [(.int 47)]) ++ vB) ++ [(.int 47)]) ++ vC) 8) (own_totv hxA hxB hxC : ((((([] ++ vA) ++ [(.int 47)]) ++ vB) ++ [(.int 47)]) ++ vC) = (Tot xA xB xC).map Value.int) ((by decide) : ¬ ((4 : Int32) < (0 : Int32)))) hZ (hw _ (mg (i := 178) rfl)) (hw _ (mg (i := 2) rfl)) (by decide) (by decide)) (g := (mkF m 163 #[.val (.int i0), .val (.int i1), .val (.int i2), .val (.int i3), .val (.int ((i3 &&& (3 : Int32)) % (3 : Int32))), .val (.int ((((i3.toUInt32 >>> ((2 : Int32) &&& 31).toUInt32).toInt32) &&& (3 : Int32)) % (3 : Int32))), .val (.int ((((i3.toUInt32 >>> ((4 : Int32) &&& 31).toUInt32).toInt32) &&& (3 : Int32)) % (3 : Int32))), .val (.ref ga), .val (.ref gb), .val (.ref gc), .val (.ref b_115)] [(.int 4), (.ref gc), (.ref gb), (.ref ga), (.ref b_115)])) rfl (by rw [hml]; rfl) (argsL := [(.ref b_115), (.ref ga), (.ref gb), (.ref gc), (.int 4)]) (rest := []) (lenOf pd_26 rfl) rfl (by show 2 * 0 + _ ≤ _; exact Nat.le_of_eq rfl) (hb hby at_163) (fun vmx hWx => ⟨rfl, Kq138, (by decide : 31 + 0 ≤ _), (by decide : 115 + 0 ≤ _)⟩)
        dsimp only [Pt.U, Pt.locs, Pt.cells, Pt.slots] at X140 l140 y140 z140 st140 hQ140
        subst l140 y140 z140
        obtain ⟨rv140, Nq140, Kq140⟩ := hQ140
        subst rv140
        have N140 := Fr.app N138 Nq140
        have pre141 : ∀ tz_, Steps p.tables e below (T140.setTop (mkF m 178 #[.val (.int i0), .val (.int i1), .val (.int i2), .val (.int i3), .val (.int ((i3 &&& (3 : Int32)) % (3 : Int32))), .val (.int ((((i3.toUInt32 >>> ((2 : Int32) &&& 31).toUInt32).toInt32) &&& (3 : Int32)) % (3 : Int32))), .val (.int ((((i3.toUInt32 >>> ((4 : Int32) &&& 31).toUInt32).toInt32) &&& (3 : Int32)) % (3 : Int32))), .val (.ref ga), .val (.ref gb), .val (.ref gc), .val (.ref b_115)] [(.int 5), (.ref gc), (.ref gb), (.ref ga), (.ref b_115)])) tz_ → Steps p.tables e below (s₁.setTop (entryFrame m #[(.int i0), (.int i1), (.int i2), (.int i3)] maxLocals)) tz_ := fun tz_ kk => pre139 tz_ (by
          refine st140 _ ?_
          show Steps p.tables e below (T140.setTop (mkF m 166 #[.val (.int i0), .val (.int i1), .val (.int i2), .val (.int i3), .val (.int ((i3 &&& (3 : Int32)) % (3 : Int32))), .val (.int ((((i3.toUInt32 >>> ((2 : Int32) &&& 31).toUInt32).toInt32) &&& (3 : Int32)) % (3 : Int32))), .val (.int ((((i3.toUInt32 >>> ((4 : Int32) &&& 31).toUInt32).toInt32) &&& (3 : Int32)) % (3 : Int32))), .val (.ref ga), .val (.ref gb), .val (.ref gc), .val (.ref b_115)] [(.int 1)])) _
          refine XS.ifNo X140.here hx rfl (hb hby at_166) rfl ((if0 _ _).trans (feq (by decide : ¬ ((1 : Int32) = (0 : Int32)))).1) ?_
          show Steps p.tables e below (T140.setTop (mkF m 169 #[.val (.int i0), .val (.int i1), .val (.int i2), .val (.int i3), .val (.int ((i3 &&& (3 : Int32)) % (3 : Int32))), .val (.int ((((i3.toUInt32 >>> ((2 : Int32) &&& 31).toUInt32).toInt32) &&& (3 : Int32)) % (3 : Int32))), .val (.int ((((i3.toUInt32 >>> ((4 : Int32) &&& 31).toUInt32).toInt32) &&& (3 : Int32)) % (3 : Int32))), .val (.ref ga), .val (.ref gb), .val (.ref gc), .val (.ref b_115)] [])) _
          refine XS.aload X140.here hx rfl (hb hby at_169) rfl rfl ?_
          refine XS.aload X140.here hx rfl (hb hby at_171) rfl rfl ?_
          refine XS.aload X140.here hx rfl (hb hby at_173) rfl rfl ?_
          refine XS.aload X140.here hx rfl (hb hby at_175) rfl rfl ?_
          show Steps p.tables e below (T140.setTop (mkF m 177 #[.val (.int i0), .val (.int i1), .val (.int i2), .val (.int i3), .val (.int ((i3 &&& (3 : Int32)) % (3 : Int32))), .val (.int ((((i3.toUInt32 >>> ((2 : Int32) &&& 31).toUInt32).toInt32) &&& (3 : Int32)) % (3 : Int32))), .val (.int ((((i3.toUInt32 >>> ((4 : Int32) &&& 31).toUInt32).toInt32) &&& (3 : Int32)) % (3 : Int32))), .val (.ref ga), .val (.ref gb), .val (.ref gc), .val (.ref b_115)] [(.ref gc), (.ref gb), (.ref ga), (.ref b_115)])) _
          refine XS.iconst X140.here hx rfl (hb hby at_177) ?_
          show Steps p.tables e below (T140.setTop (mkF m 178 #[.val (.int i0), .val (.int i1), .val (.int i2), .val (.int i3), .val (.int ((i3 &&& (3 : Int32)) % (3 : Int32))), .val (.int ((((i3.toUInt32 >>> ((2 : Int32) &&& 31).toUInt32).toInt32) &&& (3 : Int32)) % (3 : Int32))), .val (.int ((((i3.toUInt32 >>> ((4 : Int32) &&& 31).toUInt32).toInt32) &&& (3 : Int32)) % (3 : Int32))), .val (.ref ga), .val (.ref gb), .val (.ref gc), .val (.ref b_115)] [(.int 5), (.ref gc), (.ref gb), (.ref ga), (.ref b_115)])) _
          exact kk)
        -- pc 178: KeyToStringPinLaw.ok
        obtain ⟨_, _, ⟨T142, L142, k142, n142⟩, -, X142, ⟨Lc142, hQ142, l142, y142, z142⟩, st142⟩ := Jvm.LawKit.callS X140 hx (y := (⟨"com/example/ledgerline/ledgerline/KeyToStringPinLaw", "ok", "(Ljava/lang/String;Ljava/lang/String;Ljava/lang/String;Ljava/lang/String;I)Z"⟩ : MethodName)) hown (mvT hZ (hw _ (mg (i := 176) rfl))) (mvT hZ (hw _ (mg (i := 177) rfl))) (mvT hZ (hw _ (mg (i := 2) rfl))) (mvT hZ (hw _ (mg (i := 178) rfl))) (by decide) (backOf (W := 0) (okk l Z av0 hw [] b_115 ga gb gc (5 : Int32) vS_115 kS_115 ((((((0 : Int32) + zA) + (1 : Int32)) + zB) + (1 : Int32)) + zC) ((((([] ++ vA) ++ [(.int 47)]) ++ vB) ++ [(.int 47)]) ++ vC) va ka zA vA vb kb zB vB vc kc zC vC xA xB xC fm cs T115.heap n0 (own_le O116) O116 p1_S (hcs : ¬ (cs = (0 : Int32))) p3_S p4_r u115_1 u115_2 u115_3 u115_4 f120 f121 f122 f123 f124 f125 f126 f127 f128 f129 f130 f131 (hA : Ln zA vA 2) (hB : Ln zB vB 2) (hC : Ln zC vC 2) (hxA : vA = xA.map Value.int) (hxB : vB = xB.map Value.int) (hxC : vC = xC.map Value.int) ((Ln.mono (Ln.add (Ln.add (Ln.add (Ln.add (Ln.add Ln.nil hA (by decide)) (⟨by decide, rfl, by decide⟩ : Ln (1 : Int32) [(.int 47)] 1) (by decide)) hB (by decide)) (⟨by decide, rfl, by decide⟩ : Ln (1 : Int32) [(.int 47)] 1) (by decide)) hC (by decide)) (by decide)) : Ln ((((((0 : Int32) + zA) + (1 : Int32)) + zB) + (1 : Int32)) + zC) ((((([] ++ vA) ++ [(.int 47)]) ++ vB) ++ [(.int 47)]) ++ vC) 8) (own_totv hxA hxB hxC : ((((([] ++ vA) ++ [(.int 47)]) ++ vB) ++ [(.int 47)]) ++ vC) = (Tot xA xB xC).map Value.int) ((by decide) : ¬ ((5 : Int32) < (0 : Int32)))) hZ (hw _ (mg (i := 178) rfl)) (hw _ (mg (i := 2) rfl)) (by decide) (by decide)) (g := (mkF m 178 #[.val (.int i0), .val (.int i1), .val (.int i2), .val (.int i3), .val (.int ((i3 &&& (3 : Int32)) % (3 : Int32))), .val (.int ((((i3.toUInt32 >>> ((2 : Int32) &&& 31).toUInt32).toInt32) &&& (3 : Int32)) % (3 : Int32))), .val (.int ((((i3.toUInt32 >>> ((4 : Int32) &&& 31).toUInt32).toInt32) &&& (3 : Int32)) % (3 : Int32))), .val (.ref ga), .val (.ref gb), .val (.ref gc), .val (.ref b_115)] [(.int 5), (.ref gc), (.ref gb), (.ref ga), (.ref b_115)])) rfl (by rw [hml]; rfl) (argsL := [(.ref b_115), (.ref ga), (.ref gb), (.ref gc), (.int 5)]) (rest := []) (lenOf pd_26 rfl) rfl (by show 2 * 0 + _ ≤ _; exact Nat.le_of_eq rfl) (hb hby at_178) (fun vmx hWx => ⟨rfl, Kq140, (by decide : 31 + 0 ≤ _), (by decide : 115 + 0 ≤ _)⟩)
        dsimp only [Pt.U, Pt.locs, Pt.cells, Pt.slots] at X142 l142 y142 z142 st142 hQ142
        subst l142 y142 z142
        obtain ⟨rv142, Nq142, Kq142⟩ := hQ142
        subst rv142
        have N142 := Fr.app N140 Nq142
        have pre143 : ∀ tz_, Steps p.tables e below (T142.setTop (mkF m 194 #[.val (.int i0), .val (.int i1), .val (.int i2), .val (.int i3), .val (.int ((i3 &&& (3 : Int32)) % (3 : Int32))), .val (.int ((((i3.toUInt32 >>> ((2 : Int32) &&& 31).toUInt32).toInt32) &&& (3 : Int32)) % (3 : Int32))), .val (.int ((((i3.toUInt32 >>> ((4 : Int32) &&& 31).toUInt32).toInt32) &&& (3 : Int32)) % (3 : Int32))), .val (.ref ga), .val (.ref gb), .val (.ref gc), .val (.ref b_115)] [(.int 6), (.ref gc), (.ref gb), (.ref ga), (.ref b_115)])) tz_ → Steps p.tables e below (s₁.setTop (entryFrame m #[(.int i0), (.int i1), (.int i2), (.int i3)] maxLocals)) tz_ := fun tz_ kk => pre141 tz_ (by
          refine st142 _ ?_
          show Steps p.tables e below (T142.setTop (mkF m 181 #[.val (.int i0), .val (.int i1), .val (.int i2), .val (.int i3), .val (.int ((i3 &&& (3 : Int32)) % (3 : Int32))), .val (.int ((((i3.toUInt32 >>> ((2 : Int32) &&& 31).toUInt32).toInt32) &&& (3 : Int32)) % (3 : Int32))), .val (.int ((((i3.toUInt32 >>> ((4 : Int32) &&& 31).toUInt32).toInt32) &&& (3 : Int32)) % (3 : Int32))), .val (.ref ga), .val (.ref gb), .val (.ref gc), .val (.ref b_115)] [(.int 1)])) _
          refine XS.ifNo X142.here hx rfl (hb hby at_181) rfl ((if0 _ _).trans (feq (by decide : ¬ ((1 : Int32) = (0 : Int32)))).1) ?_
          refine XS.aload X142.here hx rfl (hb hby at_184) rfl rfl ?_
          show Steps p.tables e below (T142.setTop (mkF m 186 #[.val (.int i0), .val (.int i1), .val (.int i2), .val (.int i3), .val (.int ((i3 &&& (3 : Int32)) % (3 : Int32))), .val (.int ((((i3.toUInt32 >>> ((2 : Int32) &&& 31).toUInt32).toInt32) &&& (3 : Int32)) % (3 : Int32))), .val (.int ((((i3.toUInt32 >>> ((4 : Int32) &&& 31).toUInt32).toInt32) &&& (3 : Int32)) % (3 : Int32))), .val (.ref ga), .val (.ref gb), .val (.ref gc), .val (.ref b_115)] [(.ref b_115)])) _
          refine XS.aload X142.here hx rfl (hb hby at_186) rfl rfl ?_
          refine XS.aload X142.here hx rfl (hb hby at_188) rfl rfl ?_
          refine XS.aload X142.here hx rfl (hb hby at_190) rfl rfl ?_
          refine XS.bipush X142.here hx rfl (hb hby at_192) ?_
          show Steps p.tables e below (T142.setTop (mkF m 194 #[.val (.int i0), .val (.int i1), .val (.int i2), .val (.int i3), .val (.int ((i3 &&& (3 : Int32)) % (3 : Int32))), .val (.int ((((i3.toUInt32 >>> ((2 : Int32) &&& 31).toUInt32).toInt32) &&& (3 : Int32)) % (3 : Int32))), .val (.int ((((i3.toUInt32 >>> ((4 : Int32) &&& 31).toUInt32).toInt32) &&& (3 : Int32)) % (3 : Int32))), .val (.ref ga), .val (.ref gb), .val (.ref gc), .val (.ref b_115)] [(.int 6), (.ref gc), (.ref gb), (.ref ga), (.ref b_115)])) _
          exact kk)
        -- pc 194: KeyToStringPinLaw.ok
        obtain ⟨_, _, ⟨T144, L144, k144, n144⟩, -, X144, ⟨Lc144, hQ144, l144, y144, z144⟩, st144⟩ := Jvm.LawKit.callS X142 hx (y := (⟨"com/example/ledgerline/ledgerline/KeyToStringPinLaw", "ok", "(Ljava/lang/String;Ljava/lang/String;Ljava/lang/String;Ljava/lang/String;I)Z"⟩ : MethodName)) hown (mvT hZ (hw _ (mg (i := 176) rfl))) (mvT hZ (hw _ (mg (i := 177) rfl))) (mvT hZ (hw _ (mg (i := 2) rfl))) (mvT hZ (hw _ (mg (i := 178) rfl))) (by decide) (backOf (W := 0) (okk l Z av0 hw [] b_115 ga gb gc (6 : Int32) vS_115 kS_115 ((((((0 : Int32) + zA) + (1 : Int32)) + zB) + (1 : Int32)) + zC) ((((([] ++ vA) ++ [(.int 47)]) ++ vB) ++ [(.int 47)]) ++ vC) va ka zA vA vb kb zB vB vc kc zC vC xA xB xC fm cs T115.heap n0 (own_le O116) O116 p1_S (hcs : ¬ (cs = (0 : Int32))) p3_S p4_r u115_1 u115_2 u115_3 u115_4 f120 f121 f122 f123 f124 f125 f126 f127 f128 f129 f130 f131 (hA : Ln zA vA 2) (hB : Ln zB vB 2) (hC : Ln zC vC 2) (hxA : vA = xA.map Value.int) (hxB : vB = xB.map Value.int) (hxC : vC = xC.map Value.int) ((Ln.mono (Ln.add (Ln.add (Ln.add (Ln.add (Ln.add Ln.nil hA (by decide)) (⟨by decide, rfl, by decide⟩ : Ln (1 : Int32) [(.int 47)] 1) (by decide)) hB (by decide)) (⟨by decide, rfl, by decide⟩ : Ln (1 : Int32) [(.int 47)] 1) (by decide)) hC (by decide)) (by decide)) : Ln ((((((0 : Int32) + zA) + (1 : Int32)) + zB) + (1 : Int32)) + zC) ((((([] ++ vA) ++ [(.int 47)]) ++ vB) ++ [(.int 47)]) ++ vC) 8) (own_totv hxA hxB hxC : ((((([] ++ vA) ++ [(.int 47)]) ++ vB) ++ [(.int 47)]) ++ vC) = (Tot xA xB xC).map Value.int) ((by decide) : ¬ ((6 : Int32) < (0 : Int32)))) hZ (hw _ (mg (i := 178) rfl)) (hw _ (mg (i := 2) rfl)) (by decide) (by decide)) (g := (mkF m 194 #[.val (.int i0), .val (.int i1), .val (.int i2), .val (.int i3), .val (.int ((i3 &&& (3 : Int32)) % (3 : Int32))), .val (.int ((((i3.toUInt32 >>> ((2 : Int32) &&& 31).toUInt32).toInt32) &&& (3 : Int32)) % (3 : Int32))), .val (.int ((((i3.toUInt32 >>> ((4 : Int32) &&& 31).toUInt32).toInt32) &&& (3 : Int32)) % (3 : Int32))), .val (.ref ga), .val (.ref gb), .val (.ref gc), .val (.ref b_115)] [(.int 6), (.ref gc), (.ref gb), (.ref ga), (.ref b_115)])) rfl (by rw [hml]; rfl) (argsL := [(.ref b_115), (.ref ga), (.ref gb), (.ref gc), (.int 6)]) (rest := []) (lenOf pd_26 rfl) rfl (by show 2 * 0 + _ ≤ _; exact Nat.le_of_eq rfl) (hb hby at_194) (fun vmx hWx => ⟨rfl, Kq142, (by decide : 31 + 0 ≤ _), (by decide : 115 + 0 ≤ _)⟩)
        dsimp only [Pt.U, Pt.locs, Pt.cells, Pt.slots] at X144 l144 y144 z144 st144 hQ144
        subst l144 y144 z144
        obtain ⟨rv144, Nq144, Kq144⟩ := hQ144
        subst rv144
        have N144 := Fr.app N142 Nq144
        have pre145 : ∀ tz_, Steps p.tables e below (T144.setTop (mkF m 210 #[.val (.int i0), .val (.int i1), .val (.int i2), .val (.int i3), .val (.int ((i3 &&& (3 : Int32)) % (3 : Int32))), .val (.int ((((i3.toUInt32 >>> ((2 : Int32) &&& 31).toUInt32).toInt32) &&& (3 : Int32)) % (3 : Int32))), .val (.int ((((i3.toUInt32 >>> ((4 : Int32) &&& 31).toUInt32).toInt32) &&& (3 : Int32)) % (3 : Int32))), .val (.ref ga), .val (.ref gb), .val (.ref gc), .val (.ref b_115)] [(.int 7), (.ref gc), (.ref gb), (.ref ga), (.ref b_115)])) tz_ → Steps p.tables e below (s₁.setTop (entryFrame m #[(.int i0), (.int i1), (.int i2), (.int i3)] maxLocals)) tz_ := fun tz_ kk => pre143 tz_ (by
          refine st144 _ ?_
          show Steps p.tables e below (T144.setTop (mkF m 197 #[.val (.int i0), .val (.int i1), .val (.int i2), .val (.int i3), .val (.int ((i3 &&& (3 : Int32)) % (3 : Int32))), .val (.int ((((i3.toUInt32 >>> ((2 : Int32) &&& 31).toUInt32).toInt32) &&& (3 : Int32)) % (3 : Int32))), .val (.int ((((i3.toUInt32 >>> ((4 : Int32) &&& 31).toUInt32).toInt32) &&& (3 : Int32)) % (3 : Int32))), .val (.ref ga), .val (.ref gb), .val (.ref gc), .val (.ref b_115)] [(.int 1)])) _
          refine XS.ifNo X144.here hx rfl (hb hby at_197) rfl ((if0 _ _).trans (feq (by decide : ¬ ((1 : Int32) = (0 : Int32)))).1) ?_
          refine XS.aload X144.here hx rfl (hb hby at_200) rfl rfl ?_
          refine XS.aload X144.here hx rfl (hb hby at_202) rfl rfl ?_
          show Steps p.tables e below (T144.setTop (mkF m 204 #[.val (.int i0), .val (.int i1), .val (.int i2), .val (.int i3), .val (.int ((i3 &&& (3 : Int32)) % (3 : Int32))), .val (.int ((((i3.toUInt32 >>> ((2 : Int32) &&& 31).toUInt32).toInt32) &&& (3 : Int32)) % (3 : Int32))), .val (.int ((((i3.toUInt32 >>> ((4 : Int32) &&& 31).toUInt32).toInt32) &&& (3 : Int32)) % (3 : Int32))), .val (.ref ga), .val (.ref gb), .val (.ref gc), .val (.ref b_115)] [(.ref ga), (.ref b_115)])) _
          refine XS.aload X144.here hx rfl (hb hby at_204) rfl rfl ?_
          refine XS.aload X144.here hx rfl (hb hby at_206) rfl rfl ?_
          refine XS.bipush X144.here hx rfl (hb hby at_208) ?_
          show Steps p.tables e below (T144.setTop (mkF m 210 #[.val (.int i0), .val (.int i1), .val (.int i2), .val (.int i3), .val (.int ((i3 &&& (3 : Int32)) % (3 : Int32))), .val (.int ((((i3.toUInt32 >>> ((2 : Int32) &&& 31).toUInt32).toInt32) &&& (3 : Int32)) % (3 : Int32))), .val (.int ((((i3.toUInt32 >>> ((4 : Int32) &&& 31).toUInt32).toInt32) &&& (3 : Int32)) % (3 : Int32))), .val (.ref ga), .val (.ref gb), .val (.ref gc), .val (.ref b_115)] [(.int 7), (.ref gc), (.ref gb), (.ref ga), (.ref b_115)])) _
          exact kk)
        -- pc 210: KeyToStringPinLaw.ok
        obtain ⟨_, _, ⟨T146, L146, k146, n146⟩, -, X146, ⟨Lc146, hQ146, l146, y146, z146⟩, st146⟩ := Jvm.LawKit.callS X144 hx (y := (⟨"com/example/ledgerline/ledgerline/KeyToStringPinLaw", "ok", "(Ljava/lang/String;Ljava/lang/String;Ljava/lang/String;Ljava/lang/String;I)Z"⟩ : MethodName)) hown (mvT hZ (hw _ (mg (i := 176) rfl))) (mvT hZ (hw _ (mg (i := 177) rfl))) (mvT hZ (hw _ (mg (i := 2) rfl))) (mvT hZ (hw _ (mg (i := 178) rfl))) (by decide) (backOf (W := 0) (okk l Z av0 hw [] b_115 ga gb gc (7 : Int32) vS_115 kS_115 ((((((0 : Int32) + zA) + (1 : Int32)) + zB) + (1 : Int32)) + zC) ((((([] ++ vA) ++ [(.int 47)]) ++ vB) ++ [(.int 47)]) ++ vC) va ka zA vA vb kb zB vB vc kc zC vC xA xB xC fm cs T115.heap n0 (own_le O116) O116 p1_S (hcs : ¬ (cs = (0 : Int32))) p3_S p4_r u115_1 u115_2 u115_3 u115_4 f120 f121 f122 f123 f124 f125 f126 f127 f128 f129 f130 f131 (hA : Ln zA vA 2) (hB : Ln zB vB 2) (hC : Ln zC vC 2) (hxA : vA = xA.map Value.int) (hxB : vB = xB.map Value.int) (hxC : vC = xC.map Value.int) ((Ln.mono (Ln.add (Ln.add (Ln.add (Ln.add (Ln.add Ln.nil hA (by decide)) (⟨by decide, rfl, by decide⟩ : Ln (1 : Int32) [(.int 47)] 1) (by decide)) hB (by decide)) (⟨by decide, rfl, by decide⟩ : Ln (1 : Int32) [(.int 47)] 1) (by decide)) hC (by decide)) (by decide)) : Ln ((((((0 : Int32) + zA) + (1 : Int32)) + zB) + (1 : Int32)) + zC) ((((([] ++ vA) ++ [(.int 47)]) ++ vB) ++ [(.int 47)]) ++ vC) 8) (own_totv hxA hxB hxC : ((((([] ++ vA) ++ [(.int 47)]) ++ vB) ++ [(.int 47)]) ++ vC) = (Tot xA xB xC).map Value.int) ((by decide) : ¬ ((7 : Int32) < (0 : Int32)))) hZ (hw _ (mg (i := 178) rfl)) (hw _ (mg (i := 2) rfl)) (by decide) (by decide)) (g := (mkF m 210 #[.val (.int i0), .val (.int i1), .val (.int i2), .val (.int i3), .val (.int ((i3 &&& (3 : Int32)) % (3 : Int32))), .val (.int ((((i3.toUInt32 >>> ((2 : Int32) &&& 31).toUInt32).toInt32) &&& (3 : Int32)) % (3 : Int32))), .val (.int ((((i3.toUInt32 >>> ((4 : Int32) &&& 31).toUInt32).toInt32) &&& (3 : Int32)) % (3 : Int32))), .val (.ref ga), .val (.ref gb), .val (.ref gc), .val (.ref b_115)] [(.int 7), (.ref gc), (.ref gb), (.ref ga), (.ref b_115)])) rfl (by rw [hml]; rfl) (argsL := [(.ref b_115), (.ref ga), (.ref gb), (.ref gc), (.int 7)]) (rest := []) (lenOf pd_26 rfl) rfl (by show 2 * 0 + _ ≤ _; exact Nat.le_of_eq rfl) (hb hby at_210) (fun vmx hWx => ⟨rfl, Kq144, (by decide : 31 + 0 ≤ _), (by decide : 115 + 0 ≤ _)⟩)
        dsimp only [Pt.U, Pt.locs, Pt.cells, Pt.slots] at X146 l146 y146 z146 st146 hQ146
        subst l146 y146 z146
        obtain ⟨rv146, Nq146, Kq146⟩ := hQ146
        subst rv146
        have N146 := Fr.app N144 Nq146
        obtain ⟨fs, hrL, hrun, hended, hend⟩ := X146.leaveW (s := s) (vm₁ := T115.vm) hS115 (by rw [Kq146]; exact hk115) (v := some (.int 1)) (fun h => by rw [Bd.returns] at h; cases h)
        refine ⟨_, _, pre145 _ ?_, hrun, hended, _, _, rfl, ?_, ⟨_, rfl⟩, hend.2.1, hend.2.2.1, hend.2.2.2.mono (by decide) (by decide)⟩
        · refine st146 _ ?_
          show Steps p.tables e below (T146.setTop (mkF m 213 #[.val (.int i0), .val (.int i1), .val (.int i2), .val (.int i3), .val (.int ((i3 &&& (3 : Int32)) % (3 : Int32))), .val (.int ((((i3.toUInt32 >>> ((2 : Int32) &&& 31).toUInt32).toInt32) &&& (3 : Int32)) % (3 : Int32))), .val (.int ((((i3.toUInt32 >>> ((4 : Int32) &&& 31).toUInt32).toInt32) &&& (3 : Int32)) % (3 : Int32))), .val (.ref ga), .val (.ref gb), .val (.ref gc), .val (.ref b_115)] [(.int 1)])) _
          refine XS.ifNo X146.here hx rfl (hb hby at_213) rfl ((if0 _ _).trans (feq (by decide : ¬ ((1 : Int32) = (0 : Int32)))).1) ?_
          refine XS.iconst X146.here hx rfl (hb hby at_216) ?_
          refine XS.goto X146.here hx rfl (pc0 := 217) (pc' := 221) rfl (hb hby at_217) (by decide) (by decide) ?_
          show Steps p.tables e below (T146.setTop (mkF m 221 #[.val (.int i0), .val (.int i1), .val (.int i2), .val (.int i3), .val (.int ((i3 &&& (3 : Int32)) % (3 : Int32))), .val (.int ((((i3.toUInt32 >>> ((2 : Int32) &&& 31).toUInt32).toInt32) &&& (3 : Int32)) % (3 : Int32))), .val (.int ((((i3.toUInt32 >>> ((4 : Int32) &&& 31).toUInt32).toInt32) &&& (3 : Int32)) % (3 : Int32))), .val (.ref ga), .val (.ref gb), .val (.ref gc), .val (.ref b_115)] [(.int 1)])) _
          exact retN X146 hx (t := .boolean) Bd.returns (by simp) (hb hby at_221) hrL
        · show Q_rm0 _ _ _ _ _ _ _ _ _ _  T146.heap T146.vm _
          rw [Kq146]
          exact ⟨rfl, N146, K116, trivial⟩
set_option maxRecDepth 65536 in
set_option maxHeartbeats 40000000 in
theorem comes_1 {Post : Tables → Env → Array Value → State → Outcome → State → Prop} (hpost : ∀ tb e args s v u, (limb_1_1.after args s (.returned v) u = true ∧ limb_1_2.after args s (.returned v) u = true ∧ True) → ReturnedEndW s (.returned v) u (Jvm.fieldLocs frame_1_writes args s ++ Jvm.arrayLocs frame_1_arrays args s ++ Jvm.staticLocs frame_1_statics s) 40 2240 → Post tb e args s (.returned v) u) :
    ArmFor flags0 classFile x code maxLocals ret World_1 tables_1 room_1 Calls_1 rest_1 Pre_1 Post := by
  intro l hfl _ _ p e ha hc hk s m args below hf hA hF happ hP
  obtain ⟨hcalls, hrest, hpre⟩ := hP
  obtain ⟨-, -, -, hnamed, -, -, -, hat⟩ := (Spec.applies_iff hf).mp happ
  obtain ⟨hg, hn⟩ := and_e (Cond.before_iff.mp (show (Jvm.Cond.and given_1 narrow_1).before args s = true from hpre))
  obtain ⟨g1, g2⟩ := and_e hg
  obtain ⟨g3, g4⟩ := and_e g2
  obtain ⟨g5, g6⟩ := and_e g4
  obtain ⟨g7, g8⟩ := and_e g6
  obtain ⟨w0, w1, w2, w3, rfl⟩ : ∃ w0 w1 w2 w3 : Value, args = #[w0, w1, w2, w3] := by
    have hs : args.size = 4 := by simpa [Cond.value, given_1] using g1
    obtain ⟨L⟩ := args
    match L, hs with
    | [w0, w1, w2, w3], _ => exact ⟨w0, w1, w2, w3, rfl⟩
  have hw := fun d (hd : d ∈ tables_1) => atoms_spec (ws := Jvm.Cond.code x code maxLocals ret :: tables_1) hat d (List.mem_cons_of_mem _ hd)
  have hfit : Fit s := fun {y c} hc i hi => by
    obtain ⟨ha, rfl⟩ := Array.getElem?_eq_some_iff.mp hc
    have q := List.all_eq_true.mp ((Array.all_eq_true_iff_forall_mem.mp hF) _ (Array.getElem_mem ha)) i (List.mem_range.mpr hi)
    simpa [Array.getElem?_eq_getElem hi] using q
  obtain ⟨hsets, hown0⟩ := atoms_of _ (rest_1_c_eq ▸ (show rest_1_c.before _ s = true from hrest))
  have hr0 := Cond.before_iff.mp hown0
  obtain ⟨i0, ei0⟩ := is_v g3
  obtain rfl : w0 = (.int i0) := Option.some.inj ei0
  obtain ⟨i1, ei1⟩ := is_v g5
  obtain rfl : w1 = (.int i1) := Option.some.inj ei1
  obtain ⟨i2, ei2⟩ := is_v g7
  obtain rfl : w2 = (.int i2) := Option.some.inj ei2
  obtain ⟨i3, ei3⟩ := is_v g8
  obtain rfl : w3 = (.int i3) := Option.some.inj ei3
  obtain ⟨cs, ecs⟩ := is_v (Cond.before_iff.mp (hsets _ (List.mem_of_getElem? (i := 1) rfl)))
  have Scs : Sta s s.heap "java/lang/String" "COMPACT_STRINGS" "Z" (.int cs) := Sta.start ecs (Or.inl (hsets _ (List.mem_of_getElem? (i := 0) rfl)))
  have hcs : ¬ (cs = (0 : Int32)) := gotF (Cond.eq_ints ecs (Term.int_eval (0))) (not_v (Cond.before_iff.mp (hsets _ (List.mem_of_getElem? (i := 2) rfl))))
  obtain ⟨fm, efm, rfm⟩ := isR_v (Cond.before_iff.mp (hsets _ (List.mem_of_getElem? (i := 8) rfl)))
  have Sfm : Sta s s.heap "jdk/internal/util/Preconditions" "SIOOBE_FORMATTER" "Ljava/util/function/BiFunction;" fm := Sta.start efm (Or.inl (hsets _ (List.mem_of_getElem? (i := 7) rfl)))
  have hheld : Jvm.Lit.constHeld s "java/lang/String" 7 := hcalls.1 ("java/lang/String", 7) (List.mem_of_getElem? (i := 1) rfl)
  have hheld2 : Jvm.Lit.constHeld s "com/example/ledgerline/ledgerline/Settlement$Key" 26 := hcalls.1 ("com/example/ledgerline/ledgerline/Settlement$Key", 26) (List.mem_of_getElem? (i := 0) rfl)
  have hcw := (show Jvm.Lit.compactW.before _ s = true from (hsets _ (List.mem_of_getElem? (i := 2) rfl)))
  obtain ⟨n, o, h1, h2, h3, _, L, rfl, ⟨rfl, N, -, -⟩, hq⟩ := rm0 l s _ hw tables_1 i0 i1 i2 i3 cs fm s.heap s.heap.size (Nat.le_refl _) (Old.start s) Scs hcs Sfm rfm hheld hcw hheld2 p e ha hc hk s m _ below hf ((Spec.applies_iff_loose hf).mp happ).1 ⟨rfl, State.Warmed39.refl s, rfl, Or.inl IB.start⟩ trivial
  refine ⟨n, _, h1, h2, h3, hpost _ _ _ _ _ _ ⟨Cond.after_iff.mpr rfl, Cond.after_iff.mpr (eq_i res_at (Term.int_eval (1)) rfl), trivial⟩ ⟨hq.1, hq.2.1, hq.2.2.1, (hq.2.2.2.sift fun y hy => Or.inr (N y hy)).mono (by decide) (by decide)⟩⟩
theorem main_1_1 : Claimed_1_1 := comes_1 fun _ _ _ _ _ _ h hF => ⟨h.1, hF⟩
theorem main_1_2 : Claimed_1_2 := comes_1 fun _ _ _ _ _ _ h hF => ⟨h.2.1, hF⟩
end Jvm.Pilot.@@N@@
namespace Jvm.Pilot.@@N@@
open Jvm Jvm.ClassFile Sem Op Lib Jvm.Free Jvm.Stand Jvm.Pilot.@@N@@.Jvm.D
/-! MADE BY PROGRAM (witnessworld.py) out of the Statement's table words and the real class files: 27 classes; the members and pool entries that the words name. The judged class is class 1, her method 4. -/
namespace start1
open Jvm.ClassFile
def u (s : String) : CpInfo := .utf8 (stringToUtf16 s)
/-- a pool by its gaps: so many unusable entries, then the entry; so many at the end -/
def gap : Nat → List CpInfo → List CpInfo
  | 0, r => r
  | n + 1, r => .unusable :: gap n r
def poolList (es : List (Nat × CpInfo)) (last : Nat) : List CpInfo := es.foldr (fun e r => gap e.1 (e.2 :: r)) (gap last [])
def pool (es : List (Nat × CpInfo)) (last : Nat) : Array CpInfo := ⟨poolList es last⟩
def fileOf (pool : Array CpInfo) (this : Nat) (attrs : Array Attribute := #[]) (ms : Array MethodInfo := #[]) (fl : Nat := 33) (sup : Nat := 0) (ifs : Array Nat := #[]) (fds : Array FieldInfo := #[]) : ClassFile where
  minorVersion := 0
  majorVersion := 65
  constantPool := pool
  accessFlags := fl
  thisClass := this
  superClass := sup
  interfaces := ifs
  fields := fds
  methods := ms
  attributes := attrs
def plain (name : String) (sup : Option ClassId) : Class where
  name := name
  kind := .ordinary
  loader := none
  accessFlags := 33
  super := sup
  interfaces := #[]
  cf := none
  fields := #[]
  methods := #[]
  instanceTypes := #[]
  staticTypes := #[]
  resolved := #[]
  callSites := []
  init := .initialized
  statics := none
  mirror := none

def pool0 : Array CpInfo := pool [(5, u "<init>"), (0, u "()V"), (1, .class_ 10), (1, u "java/lang/Object")] 113

def k0c0 : Code := { maxStack := 0, maxLocals := 1, code := object_method_1_code, exceptionTable := #[], attributes := #[] }
def k0m0 : Method := { name := "<init>", desc := "()V", sig := { parameters := [], returnType := none }, accessFlags := 1, code := some k0c0 }
/-- java/lang/Object -/
def k0 : Class := { plain "java/lang/Object" none with
  accessFlags := 33
  interfaces := #[]
  cf := some (fileOf pool0 8 #[] #[{ accessFlags := 1, nameIndex := 5, descriptorIndex := 6, attributes := #[] }] 33 0 #[] #[])
  fields := #[]
  methods := #[k0m0]
  instanceTypes := #[]
  staticTypes := #[]
  resolved := Array.replicate 124 none
  statics := none }

def pool1 : Array CpInfo := pool [(2, .class_ 4), (1, u "java/lang/Object"), (0, u "<init>"), (0, u "()V"), (0, .class_ 8), (0, u "java/lang/String"), (0, .methodref 7 10), (0, .nameAndType 5 11), (0, u "([C)V"), (0, .methodref 7 13), (0, .nameAndType 14 15), (0, u "valueOf"), (0, u "(C)Ljava/lang/String;"), (0, .methodref 7 17), (0, .nameAndType 18 19), (0, u "length"), (0, u "()I"), (0, .methodref 7 21), (0, .nameAndType 22 23), (0, u "charAt"), (0, u "(I)C"), (0, .methodref 25 26), (0, .class_ 27), (0, .nameAndType 28 29), (0, u "com/example/ledgerline/ledgerline/KeyToStringPinLaw"), (0, u "at"), (0, u "(Ljava/lang/String;Ljava/lang/String;Ljava/lang/String;I)C"), (0, .methodref 25 31), (0, .nameAndType 32 33), (0, u "mk"), (0, u "(II)Ljava/lang/String;"), (0, .class_ 35), (0, u "com/example/ledgerline/ledgerline/Settlement$Key"), (0, .methodref 34 37), (0, .nameAndType 5 38), (0, u "(Ljava/lang/String;Ljava/lang/String;Ljava/lang/String;)V"), (0, .methodref 34 40), (0, .nameAndType 41 42), (0, u "toString"), (0, u "()Ljava/lang/String;"), (0, .methodref 25 44), (0, .nameAndType 45 46), (0, u "ok"), (0, u "(Ljava/lang/String;Ljava/lang/String;Ljava/lang/String;Ljava/lang/String;I)Z"), (3, u "law"), (0, u "(IIII)Z")] 6

def k1m0 : Method := { name := "<init>", desc := "()V", sig := { parameters := [], returnType := none }, accessFlags := 1, code := none }
def k1c1 : Code := { maxStack := 4, maxLocals := 3, code := method_2_code, exceptionTable := #[], attributes := #[] }
def k1m1 : Method := { name := "mk", desc := "(II)Ljava/lang/String;", sig := { parameters := [.int, .int], returnType := some (.object "java/lang/String") }, accessFlags := 10, code := some k1c1 }
def k1c2 : Code := { maxStack := 2, maxLocals := 5, code := method_3_code, exceptionTable := #[], attributes := #[] }
def k1m2 : Method := { name := "at", desc := "(Ljava/lang/String;Ljava/lang/String;Ljava/lang/String;I)C", sig := { parameters := [(.object "java/lang/String"), (.object "java/lang/String"), (.object "java/lang/String"), .int], returnType := some .char }, accessFlags := 10, code := some k1c2 }
def k1c3 : Code := { maxStack := 5, maxLocals := 5, code := method_4_code, exceptionTable := #[], attributes := #[] }
def k1m3 : Method := { name := "ok", desc := "(Ljava/lang/String;Ljava/lang/String;Ljava/lang/String;Ljava/lang/String;I)Z", sig := { parameters := [(.object "java/lang/String"), (.object "java/lang/String"), (.object "java/lang/String"), (.object "java/lang/String"), .int], returnType := some .boolean }, accessFlags := 10, code := some k1c3 }
def k1c4 : Code := { maxStack := 5, maxLocals := 11, code := code, exceptionTable := #[], attributes := #[] }
def k1m4 : Method := { name := "law", desc := "(IIII)Z", sig := { parameters := [.int, .int, .int, .int], returnType := some .boolean }, accessFlags := 9, code := some k1c4 }
/-- com/example/ledgerline/ledgerline/KeyToStringPinLaw -/
def k1 : Class := { plain "com/example/ledgerline/ledgerline/KeyToStringPinLaw" (some 0) with
  accessFlags := 49
  interfaces := #[]
  cf := some (fileOf pool1 25 #[] #[{ accessFlags := 1, nameIndex := 5, descriptorIndex := 6, attributes := #[] }, { accessFlags := 10, nameIndex := 32, descriptorIndex := 33, attributes := #[] }, { accessFlags := 10, nameIndex := 28, descriptorIndex := 29, attributes := #[] }, { accessFlags := 10, nameIndex := 45, descriptorIndex := 46, attributes := #[] }, { accessFlags := 9, nameIndex := 50, descriptorIndex := 51, attributes := #[] }] 49 2 #[] #[])
  fields := #[]
  methods := #[k1m0, k1m1, k1m2, k1m3, k1m4]
  instanceTypes := #[]
  staticTypes := #[]
  resolved := Array.replicate 58 none
  statics := none }

def pool2 : Array CpInfo := pool [(1, .class_ 2), (0, u "java/io/Serializable"), (0, .class_ 4), (0, u "java/lang/Object")] 2

/-- java/io/Serializable -/
def k2 : Class := { plain "java/io/Serializable" (some 0) with
  accessFlags := 1537
  interfaces := #[]
  cf := some (fileOf pool2 1 #[] #[] 1537 3 #[] #[])
  fields := #[]
  methods := #[]
  instanceTypes := #[]
  staticTypes := #[]
  resolved := Array.replicate 7 none
  statics := none }

def pool3 : Array CpInfo := pool [(1, .class_ 2), (0, u "java/lang/Comparable"), (0, .class_ 4), (0, u "java/lang/Object")] 7

/-- java/lang/Comparable -/
def k3 : Class := { plain "java/lang/Comparable" (some 0) with
  accessFlags := 1537
  interfaces := #[]
  cf := some (fileOf pool3 1 #[] #[] 1537 3 #[] #[])
  fields := #[]
  methods := #[]
  instanceTypes := #[]
  staticTypes := #[]
  resolved := Array.replicate 12 none
  statics := none }

def pool4 : Array CpInfo := pool [(2, .class_ 4), (1, u "java/lang/CharSequence"), (42, .class_ 48), (0, u "java/lang/CharSequence$1CodePointIterator"), (10, .class_ 60), (0, u "java/lang/CharSequence$1CharIterator"), (5, .class_ 67), (0, u "java/lang/Object")] 63

/-- java/lang/CharSequence -/
def k4 : Class := { plain "java/lang/CharSequence" (some 0) with
  accessFlags := 1537
  interfaces := #[]
  cf := some (fileOf pool4 2 #[.nestMembers #[47, 59]] #[] 1537 66 #[] #[])
  fields := #[]
  methods := #[]
  instanceTypes := #[]
  staticTypes := #[]
  resolved := Array.replicate 131 none
  statics := none }

def pool5 : Array CpInfo := pool [(1, .class_ 2), (0, u "java/lang/constant/Constable"), (0, .class_ 4), (0, u "java/lang/Object")] 6

/-- java/lang/constant/Constable -/
def k5 : Class := { plain "java/lang/constant/Constable" (some 0) with
  accessFlags := 1537
  interfaces := #[]
  cf := some (fileOf pool5 1 #[] #[] 1537 3 #[] #[])
  fields := #[]
  methods := #[]
  instanceTypes := #[]
  staticTypes := #[]
  resolved := Array.replicate 11 none
  statics := none }

def pool6 : Array CpInfo := pool [(1, .class_ 2), (0, u "java/lang/constant/ConstantDesc"), (0, .class_ 4), (0, u "java/lang/Object")] 32

/-- java/lang/constant/ConstantDesc -/
def k6 : Class := { plain "java/lang/constant/ConstantDesc" (some 0) with
  accessFlags := 1537
  interfaces := #[]
  cf := some (fileOf pool6 1 #[] #[] 1537 3 #[] #[])
  fields := #[]
  methods := #[]
  instanceTypes := #[]
  staticTypes := #[]
  resolved := Array.replicate 37 none
  statics := none }

def pool7 : Array CpInfo := pool [(1, .methodref 2 3), (0, .class_ 4), (0, .nameAndType 5 6), (0, u "java/lang/Object"), (0, u "<init>"), (0, u "()V"), (0, .string 8), (0, u ""), (0, .fieldref 10 11), (0, .class_ 12), (0, .nameAndType 13 14), (0, u "java/lang/String"), (0, u "value"), (0, u "[B"), (0, .fieldref 10 16), (0, .nameAndType 17 18), (0, u "coder"), (0, u "B"), (2, u "hash"), (0, u "I"), (2, u "hashIsZero"), (0, u "Z"), (0, .methodref 10 28), (0, .nameAndType 5 29), (0, u "([CIILjava/lang/Void;)V"), (8, .fieldref 10 39), (0, .nameAndType 40 26), (0, u "COMPACT_STRINGS"), (1, .class_ 44), (1, u "java/lang/StringUTF16"), (0, u "compress"), (1, .methodref 42 48), (0, .nameAndType 49 50), (0, u "coderFromArrayLen"), (0, u "([BI)B"), (2, u "toBytes"), (0, .methodref 55 56), (0, .class_ 57), (0, .nameAndType 58 59), (0, u "java/util/Arrays"), (0, u "copyOfRange"), (0, u "([BII)[B"), (47, .class_ 109), (1, u "java/lang/StringLatin1"), (32, u "()Z"), (34, .methodref 42 178), (0, .nameAndType 45 179), (0, u "([CII)[B"), (13, .class_ 195), (1, u "java/lang/System"), (13, .methodref 10 210), (0, .nameAndType 5 211), (0, u "([BB)V"), (0, .methodref 193 213), (0, .nameAndType 214 215), (0, u "arraycopy"), (0, u "(Ljava/lang/Object;ILjava/lang/Object;II)V"), (118, u "()I"), (0, .methodref 10 336), (0, .nameAndType 17 337), (0, u "()B"), (2, u "()[B"), (22, u "([BI)C"), (5, u "(C)Z"), (21, u "(II)V"), (35, u "(I)C"), (61, .methodref 10 490), (0, .nameAndType 5 491), (0, u "(Ljava/lang/AbstractStringBuilder;Ljava/lang/Void;)V"), (0, .methodref 10 493), (0, .nameAndType 494 142), (0, u "isLatin1"), (0, .methodref 107 496), (0, .nameAndType 497 363), (0, u "charAt"), (3, u "checkIndex"), (4, .nameAndType 507 334), (0, u "length"), (24, u "getBytes"), (16, .methodref 550 506), (0, .class_ 551), (0, u "java/lang/AbstractStringBuilder"), (0, .methodref 550 553), (0, .nameAndType 554 340), (0, u "getValue"), (20, .class_ 576), (0, u "java/lang/CharSequence"), (22, u "CASE_INSENSITIVE_ORDER"), (0, u "Ljava/util/Comparator;"), (181, u "valueOf"), (0, u "(C)Ljava/lang/String;"), (37, u "([BIB)V"), (188, u "([C)V"), (4, .methodref 107 1016), (0, .nameAndType 1017 369), (0, u "canEncode"), (0, .methodref 107 1019), (0, .nameAndType 53 1020), (0, u "(C)[B"), (26, .methodref 550 493), (5, .fieldref 1054 1055), (0, .class_ 1056), (0, .nameAndType 1057 1058), (0, u "jdk/internal/util/Preconditions"), (0, u "SIOOBE_FORMATTER"), (0, u "Ljava/util/function/BiFunction;"), (0, .methodref 1054 1060), (0, .nameAndType 501 1061), (0, u "(IILjava/util/function/BiFunction;)I"), (39, u "serialPersistentFields"), (0, u "[Ljava/io/ObjectStreamField;"), (0, .class_ 1104), (0, u "java/lang/String$CaseInsensitiveComparator"), (1, .class_ 1107), (0, u "java/io/Serializable"), (0, .class_ 1109), (0, u "java/lang/Comparable"), (0, .class_ 1111), (0, u "java/lang/constant/Constable"), (0, .class_ 1113), (0, u "java/lang/constant/ConstantDesc"), (2, u "serialVersionUID"), (0, u "J"), (3, u "REPL"), (0, u "C"), (2, u "LATIN1"), (1, u "UTF16"), (105, u "(Ljava/lang/StringBuilder;)V")] 217

def k7m0 : Method := { name := "<init>", desc := "()V", sig := { parameters := [], returnType := none }, accessFlags := 1, code := none }
def k7c1 : Code := { maxStack := 5, maxLocals := 2, code := jdk_42_method_3_code, exceptionTable := #[], attributes := #[] }
def k7m1 : Method := { name := "<init>", desc := "([C)V", sig := { parameters := [(.array .char)], returnType := none }, accessFlags := 1, code := some k7c1 }
def k7c2 : Code := { maxStack := 3, maxLocals := 2, code := jdk_42_method_53_code, exceptionTable := #[], attributes := #[] }
def k7m2 : Method := { name := "<init>", desc := "(Ljava/lang/StringBuilder;)V", sig := { parameters := [(.object "java/lang/StringBuilder")], returnType := none }, accessFlags := 1, code := some k7c2 }
def k7c3 : Code := { maxStack := 2, maxLocals := 1, code := jdk_42_method_54_code, exceptionTable := #[], attributes := #[] }
def k7m3 : Method := { name := "length", desc := "()I", sig := { parameters := [], returnType := some .int }, accessFlags := 1, code := some k7c3 }
def k7c4 : Code := { maxStack := 2, maxLocals := 2, code := jdk_42_method_56_code, exceptionTable := #[], attributes := #[] }
def k7m4 : Method := { name := "charAt", desc := "(I)C", sig := { parameters := [.int], returnType := some .char }, accessFlags := 1, code := some k7c4 }
def k7c5 : Code := { maxStack := 4, maxLocals := 1, code := jdk_42_method_139_code, exceptionTable := #[], attributes := #[] }
def k7m5 : Method := { name := "valueOf", desc := "(C)Ljava/lang/String;", sig := { parameters := [.char], returnType := some (.object "java/lang/String") }, accessFlags := 9, code := some k7c5 }
def k7c6 : Code := { maxStack := 5, maxLocals := 4, code := jdk_42_method_147_code, exceptionTable := #[], attributes := #[] }
def k7m6 : Method := { name := "getBytes", desc := "([BIB)V", sig := { parameters := [(.array .byte), .int, .byte], returnType := none }, accessFlags := 0, code := some k7c6 }
def k7c7 : Code := { maxStack := 4, maxLocals := 6, code := jdk_42_method_149_code, exceptionTable := #[], attributes := #[] }
def k7m7 : Method := { name := "<init>", desc := "([CIILjava/lang/Void;)V", sig := { parameters := [(.array .char), .int, .int, (.object "java/lang/Void")], returnType := none }, accessFlags := 2, code := some k7c7 }
def k7c8 : Code := { maxStack := 5, maxLocals := 5, code := jdk_42_method_150_code, exceptionTable := #[], attributes := #[] }
def k7m8 : Method := { name := "<init>", desc := "(Ljava/lang/AbstractStringBuilder;Ljava/lang/Void;)V", sig := { parameters := [(.object "java/lang/AbstractStringBuilder"), (.object "java/lang/Void")], returnType := none }, accessFlags := 0, code := some k7c8 }
def k7c9 : Code := { maxStack := 2, maxLocals := 3, code := jdk_42_method_151_code, exceptionTable := #[], attributes := #[] }
def k7m9 : Method := { name := "<init>", desc := "([BB)V", sig := { parameters := [(.array .byte), .byte], returnType := none }, accessFlags := 0, code := some k7c9 }
def k7c10 : Code := { maxStack := 1, maxLocals := 1, code := jdk_42_method_152_code, exceptionTable := #[], attributes := #[] }
def k7m10 : Method := { name := "coder", desc := "()B", sig := { parameters := [], returnType := some .byte }, accessFlags := 0, code := some k7c10 }
def k7c11 : Code := { maxStack := 1, maxLocals := 1, code := jdk_42_method_154_code, exceptionTable := #[], attributes := #[] }
def k7m11 : Method := { name := "isLatin1", desc := "()Z", sig := { parameters := [], returnType := some .boolean }, accessFlags := 0, code := some k7c11 }
def k7c12 : Code := { maxStack := 3, maxLocals := 2, code := jdk_42_method_155_code, exceptionTable := #[], attributes := #[] }
def k7m12 : Method := { name := "checkIndex", desc := "(II)V", sig := { parameters := [.int, .int], returnType := none }, accessFlags := 8, code := some k7c12 }
/-- java/lang/String -/
def k7 : Class := { plain "java/lang/String" (some 0) with
  accessFlags := 49
  interfaces := #[2, 3, 4, 5, 6]
  cf := some (fileOf pool7 10 #[.nestMembers #[1103]] #[{ accessFlags := 1, nameIndex := 5, descriptorIndex := 6, attributes := #[] }, { accessFlags := 1, nameIndex := 5, descriptorIndex := 1010, attributes := #[] }, { accessFlags := 1, nameIndex := 5, descriptorIndex := 1233, attributes := #[] }, { accessFlags := 1, nameIndex := 507, descriptorIndex := 334, attributes := #[] }, { accessFlags := 1, nameIndex := 497, descriptorIndex := 427, attributes := #[] }, { accessFlags := 9, nameIndex := 782, descriptorIndex := 783, attributes := #[] }, { accessFlags := 0, nameIndex := 532, descriptorIndex := 821, attributes := #[] }, { accessFlags := 2, nameIndex := 5, descriptorIndex := 29, attributes := #[] }, { accessFlags := 0, nameIndex := 5, descriptorIndex := 491, attributes := #[] }, { accessFlags := 0, nameIndex := 5, descriptorIndex := 211, attributes := #[] }, { accessFlags := 0, nameIndex := 17, descriptorIndex := 337, attributes := #[] }, { accessFlags := 0, nameIndex := 494, descriptorIndex := 142, attributes := #[] }, { accessFlags := 8, nameIndex := 501, descriptorIndex := 391, attributes := #[] }] 49 2 #[1106, 1108, 575, 1110, 1112] #[{ accessFlags := 18, nameIndex := 13, descriptorIndex := 14, attributes := #[] }, { accessFlags := 18, nameIndex := 17, descriptorIndex := 18, attributes := #[] }, { accessFlags := 2, nameIndex := 21, descriptorIndex := 22, attributes := #[] }, { accessFlags := 2, nameIndex := 25, descriptorIndex := 26, attributes := #[] }, { accessFlags := 26, nameIndex := 1116, descriptorIndex := 1117, attributes := #[] }, { accessFlags := 24, nameIndex := 40, descriptorIndex := 26, attributes := #[] }, { accessFlags := 26, nameIndex := 1101, descriptorIndex := 1102, attributes := #[] }, { accessFlags := 26, nameIndex := 1121, descriptorIndex := 1122, attributes := #[] }, { accessFlags := 25, nameIndex := 599, descriptorIndex := 600, attributes := #[] }, { accessFlags := 24, nameIndex := 1125, descriptorIndex := 18, attributes := #[] }, { accessFlags := 24, nameIndex := 1127, descriptorIndex := 18, attributes := #[] }])
  fields := #[{ name := "value", type := (.array .byte), accessFlags := 18, slot := 0, constantValue := 0 }, { name := "coder", type := .byte, accessFlags := 18, slot := 1, constantValue := 0 }, { name := "hash", type := .int, accessFlags := 2, slot := 2, constantValue := 0 }, { name := "hashIsZero", type := .boolean, accessFlags := 2, slot := 3, constantValue := 0 }, { name := "serialVersionUID", type := .long, accessFlags := 26, slot := 0, constantValue := 0 }, { name := "COMPACT_STRINGS", type := .boolean, accessFlags := 24, slot := 1, constantValue := 0 }, { name := "serialPersistentFields", type := (.array (.object "java/io/ObjectStreamField")), accessFlags := 26, slot := 2, constantValue := 0 }, { name := "REPL", type := .char, accessFlags := 26, slot := 3, constantValue := 0 }, { name := "CASE_INSENSITIVE_ORDER", type := (.object "java/util/Comparator"), accessFlags := 25, slot := 4, constantValue := 0 }, { name := "LATIN1", type := .byte, accessFlags := 24, slot := 5, constantValue := 0 }, { name := "UTF16", type := .byte, accessFlags := 24, slot := 6, constantValue := 0 }]
  methods := #[k7m0, k7m1, k7m2, k7m3, k7m4, k7m5, k7m6, k7m7, k7m8, k7m9, k7m10, k7m11, k7m12]
  instanceTypes := #[(.array .byte), .byte, .int, .boolean]
  staticTypes := #[.long, .boolean, (.array (.object "java/io/ObjectStreamField")), .char, (.object "java/util/Comparator"), .byte, .byte]
  resolved := Array.replicate 1451 none
  statics := some 0 }

def pool8 : Array CpInfo := pool [(1, .class_ 2), (0, u "java/lang/String"), (1, .class_ 6), (1, u "java/lang/Object"), (0, u "<init>"), (0, u "()V"), (0, .methodref 1 10), (0, .nameAndType 11 12), (0, u "checkIndex"), (0, u "(II)V"), (1, .class_ 16), (1, u "java/lang/StringLatin1"), (36, u "([BI)C"), (36, u "canEncode"), (14, u "(C)Z"), (15, u "$assertionsDisabled"), (0, u "Z"), (98, .class_ 223), (1, u "java/lang/StringLatin1$LinesSpliterator"), (28, u "charAt"), (127, u "toBytes"), (1, u "(C)[B"), (7, .class_ 391), (0, u "java/lang/StringLatin1$CharsSpliterator")] 3

def k8m0 : Method := { name := "<init>", desc := "()V", sig := { parameters := [], returnType := none }, accessFlags := 0, code := none }
def k8c1 : Code := { maxStack := 2, maxLocals := 2, code := jdk_43_method_2_code, exceptionTable := #[], attributes := #[] }
def k8m1 : Method := { name := "charAt", desc := "([BI)C", sig := { parameters := [(.array .byte), .int], returnType := some .char }, accessFlags := 9, code := some k8c1 }
def k8c2 : Code := { maxStack := 2, maxLocals := 1, code := jdk_43_method_3_code, exceptionTable := #[], attributes := #[] }
def k8m2 : Method := { name := "canEncode", desc := "(C)Z", sig := { parameters := [.char], returnType := some .boolean }, accessFlags := 9, code := some k8c2 }
def k8c3 : Code := { maxStack := 4, maxLocals := 1, code := jdk_43_method_46_code, exceptionTable := #[], attributes := #[] }
def k8m3 : Method := { name := "toBytes", desc := "(C)[B", sig := { parameters := [.char], returnType := some (.array .byte) }, accessFlags := 9, code := some k8c3 }
/-- java/lang/StringLatin1 -/
def k8 : Class := { plain "java/lang/StringLatin1" (some 0) with
  accessFlags := 48
  interfaces := #[]
  cf := some (fileOf pool8 14 #[.nestMembers #[390, 221]] #[{ accessFlags := 0, nameIndex := 7, descriptorIndex := 8, attributes := #[] }, { accessFlags := 9, nameIndex := 252, descriptorIndex := 53, attributes := #[] }, { accessFlags := 9, nameIndex := 90, descriptorIndex := 105, attributes := #[] }, { accessFlags := 9, nameIndex := 380, descriptorIndex := 382, attributes := #[] }] 48 4 #[] #[{ accessFlags := 4120, nameIndex := 121, descriptorIndex := 122, attributes := #[] }])
  fields := #[{ name := "$assertionsDisabled", type := .boolean, accessFlags := 4120, slot := 0, constantValue := 0 }]
  methods := #[k8m0, k8m1, k8m2, k8m3]
  instanceTypes := #[]
  staticTypes := #[.boolean]
  resolved := Array.replicate 395 none
  statics := none }

def pool9 : Array CpInfo := pool [(1, .methodref 2 3), (0, .class_ 4), (0, .nameAndType 5 6), (0, u "java/lang/Object"), (0, u "<init>"), (0, u "()V"), (0, .class_ 8), (0, u "java/lang/Record")] 13

def k9c0 : Code := { maxStack := 1, maxLocals := 1, code := jdk_30_method_1_code, exceptionTable := #[], attributes := #[] }
def k9m0 : Method := { name := "<init>", desc := "()V", sig := { parameters := [], returnType := none }, accessFlags := 4, code := some k9c0 }
/-- java/lang/Record -/
def k9 : Class := { plain "java/lang/Record" (some 0) with
  accessFlags := 1057
  interfaces := #[]
  cf := some (fileOf pool9 7 #[] #[{ accessFlags := 4, nameIndex := 5, descriptorIndex := 6, attributes := #[] }] 1057 2 #[] #[])
  fields := #[]
  methods := #[k9m0]
  instanceTypes := #[]
  staticTypes := #[]
  resolved := Array.replicate 22 none
  statics := none }

def pool10 : Array CpInfo := pool [(1, .methodref 2 3), (0, .class_ 4), (0, .nameAndType 5 6), (0, u "java/lang/Record"), (0, u "<init>"), (0, u "()V"), (0, .fieldref 8 9), (0, .class_ 10), (0, .nameAndType 11 12), (0, u "com/example/ledgerline/ledgerline/Settlement$Key"), (0, u "pts"), (0, u "Ljava/lang/String;"), (0, .fieldref 8 14), (0, .nameAndType 15 12), (0, u "processingEntity"), (0, .fieldref 8 17), (0, .nameAndType 18 12), (0, u "settlementId"), (0, .class_ 20), (0, u "java/lang/StringBuilder"), (0, .methodref 19 3), (0, .methodref 19 23), (0, .nameAndType 24 25), (0, u "append"), (0, u "(Ljava/lang/String;)Ljava/lang/StringBuilder;"), (0, .string 27), (0, u "/"), (0, .methodref 19 29), (0, .nameAndType 30 31), (0, u "toString"), (0, u "()Ljava/lang/String;"), (8, u "(Ljava/lang/String;Ljava/lang/String;Ljava/lang/String;)V"), (8, .class_ 50), (0, u "com/example/ledgerline/ledgerline/Settlement")] 21

def k10c0 : Code := { maxStack := 2, maxLocals := 4, code := prog_59_method_1_code, exceptionTable := #[], attributes := #[] }
def k10m0 : Method := { name := "<init>", desc := "(Ljava/lang/String;Ljava/lang/String;Ljava/lang/String;)V", sig := { parameters := [(.object "java/lang/String"), (.object "java/lang/String"), (.object "java/lang/String")], returnType := none }, accessFlags := 0, code := some k10c0 }
def k10c1 : Code := { maxStack := 2, maxLocals := 1, code := prog_59_method_2_code, exceptionTable := #[], attributes := #[] }
def k10m1 : Method := { name := "toString", desc := "()Ljava/lang/String;", sig := { parameters := [], returnType := some (.object "java/lang/String") }, accessFlags := 1, code := some k10c1 }
/-- com/example/ledgerline/ledgerline/Settlement$Key -/
def k10 : Class := { plain "com/example/ledgerline/ledgerline/Settlement$Key" (some 9) with
  accessFlags := 48
  interfaces := #[]
  cf := some (fileOf pool10 8 #[.nestHost 49] #[{ accessFlags := 0, nameIndex := 5, descriptorIndex := 40, attributes := #[] }, { accessFlags := 1, nameIndex := 30, descriptorIndex := 31, attributes := #[] }] 48 2 #[] #[{ accessFlags := 18, nameIndex := 11, descriptorIndex := 12, attributes := #[] }, { accessFlags := 18, nameIndex := 15, descriptorIndex := 12, attributes := #[] }, { accessFlags := 18, nameIndex := 18, descriptorIndex := 12, attributes := #[] }])
  fields := #[{ name := "pts", type := (.object "java/lang/String"), accessFlags := 18, slot := 0, constantValue := 0 }, { name := "processingEntity", type := (.object "java/lang/String"), accessFlags := 18, slot := 1, constantValue := 0 }, { name := "settlementId", type := (.object "java/lang/String"), accessFlags := 18, slot := 2, constantValue := 0 }]
  methods := #[k10m0, k10m1]
  instanceTypes := #[(.object "java/lang/String"), (.object "java/lang/String"), (.object "java/lang/String")]
  staticTypes := #[]
  resolved := Array.replicate 72 none
  statics := none }

def pool11 : Array CpInfo := pool [(1, .class_ 2), (0, u "java/lang/Appendable"), (0, .class_ 4), (0, u "java/lang/Object")] 9

/-- java/lang/Appendable -/
def k11 : Class := { plain "java/lang/Appendable" (some 0) with
  accessFlags := 1537
  interfaces := #[]
  cf := some (fileOf pool11 1 #[] #[] 1537 3 #[] #[])
  fields := #[]
  methods := #[]
  instanceTypes := #[]
  staticTypes := #[]
  resolved := Array.replicate 14 none
  statics := none }

def pool12 : Array CpInfo := pool [(1, .class_ 2), (0, u "java/lang/String"), (0, .methodref 4 5), (0, .class_ 6), (0, .nameAndType 7 8), (0, u "java/lang/Object"), (0, u "<init>"), (0, u "()V"), (1, .class_ 12), (1, u "java/lang/AbstractStringBuilder"), (0, u "EMPTYVALUE"), (0, u "[B"), (0, .fieldref 10 16), (0, .nameAndType 17 14), (0, u "value"), (0, .fieldref 1 19), (0, .nameAndType 20 21), (0, u "COMPACT_STRINGS"), (0, u "Z"), (0, .fieldref 10 23), (0, .nameAndType 24 25), (0, u "coder"), (0, u "B"), (6, .methodref 1 33), (0, .nameAndType 34 35), (0, u "length"), (0, u "()I"), (4, .methodref 1 41), (0, .nameAndType 24 42), (0, u "()B"), (2, u "append"), (0, u "(Ljava/lang/String;)Ljava/lang/AbstractStringBuilder;"), (1, .class_ 49), (0, u "java/lang/CharSequence"), (19, u "(Ljava/lang/String;)V"), (5, u "maybeLatin1"), (3, .fieldref 10 80), (0, .nameAndType 81 82), (0, u "count"), (0, u "I"), (2, u "isLatin1"), (0, u "()Z"), (13, .methodref 10 101), (0, .nameAndType 102 103), (0, u "ensureCapacityInternal"), (0, u "(I)V"), (104, .methodref 10 209), (0, .nameAndType 210 211), (0, u "putStringAt"), (0, u "(ILjava/lang/String;)V"), (5, u "inflateIfNeededFor"), (2, .nameAndType 221 222), (0, u "getBytes"), (0, u "([BIB)V"), (174, .methodref 10 398), (0, .nameAndType 217 69), (0, .methodref 1 220), (3, u "()[B"), (40, .class_ 445), (0, u "java/lang/Appendable"), (106, u "getValue")] 56

def k12m0 : Method := { name := "<init>", desc := "()V", sig := { parameters := [], returnType := none }, accessFlags := 0, code := none }
def k12c1 : Code := { maxStack := 2, maxLocals := 2, code := jdk_68_method_2_code, exceptionTable := #[], attributes := #[] }
def k12m1 : Method := { name := "<init>", desc := "(I)V", sig := { parameters := [.int], returnType := none }, accessFlags := 0, code := some k12c1 }
def k12c2 : Code := { maxStack := 1, maxLocals := 1, code := jdk_68_method_6_code, exceptionTable := #[], attributes := #[] }
def k12m2 : Method := { name := "length", desc := "()I", sig := { parameters := [], returnType := some .int }, accessFlags := 1, code := some k12c2 }
def k12c3 : Code := { maxStack := 4, maxLocals := 3, code := jdk_68_method_9_code, exceptionTable := #[], attributes := #[] }
def k12m3 : Method := { name := "ensureCapacityInternal", desc := "(I)V", sig := { parameters := [.int], returnType := none }, accessFlags := 2, code := some k12c3 }
def k12c4 : Code := { maxStack := 3, maxLocals := 3, code := jdk_68_method_22_code, exceptionTable := #[], attributes := #[] }
def k12m4 : Method := { name := "append", desc := "(Ljava/lang/String;)Ljava/lang/AbstractStringBuilder;", sig := { parameters := [(.object "java/lang/String")], returnType := some (.object "java/lang/AbstractStringBuilder") }, accessFlags := 1, code := some k12c4 }
def k12c5 : Code := { maxStack := 1, maxLocals := 1, code := jdk_68_method_64_code, exceptionTable := #[], attributes := #[] }
def k12m5 : Method := { name := "getValue", desc := "()[B", sig := { parameters := [], returnType := some (.array .byte) }, accessFlags := 16, code := some k12c5 }
def k12c6 : Code := { maxStack := 1, maxLocals := 1, code := jdk_68_method_68_code, exceptionTable := #[], attributes := #[] }
def k12m6 : Method := { name := "isLatin1", desc := "()Z", sig := { parameters := [], returnType := some .boolean }, accessFlags := 16, code := some k12c6 }
def k12c7 : Code := { maxStack := 2, maxLocals := 2, code := jdk_68_method_71_code, exceptionTable := #[], attributes := #[] }
def k12m7 : Method := { name := "inflateIfNeededFor", desc := "(Ljava/lang/String;)V", sig := { parameters := [(.object "java/lang/String")], returnType := none }, accessFlags := 2, code := some k12c7 }
def k12c8 : Code := { maxStack := 4, maxLocals := 3, code := jdk_68_method_73_code, exceptionTable := #[], attributes := #[] }
def k12m8 : Method := { name := "putStringAt", desc := "(ILjava/lang/String;)V", sig := { parameters := [.int, (.object "java/lang/String")], returnType := none }, accessFlags := 2, code := some k12c8 }
/-- java/lang/AbstractStringBuilder -/
def k12 : Class := { plain "java/lang/AbstractStringBuilder" (some 0) with
  accessFlags := 1056
  interfaces := #[11, 4]
  cf := some (fileOf pool12 10 #[] #[{ accessFlags := 0, nameIndex := 7, descriptorIndex := 8, attributes := #[] }, { accessFlags := 0, nameIndex := 7, descriptorIndex := 103, attributes := #[] }, { accessFlags := 1, nameIndex := 34, descriptorIndex := 35, attributes := #[] }, { accessFlags := 2, nameIndex := 102, descriptorIndex := 103, attributes := #[] }, { accessFlags := 1, nameIndex := 45, descriptorIndex := 46, attributes := #[] }, { accessFlags := 16, nameIndex := 552, descriptorIndex := 403, attributes := #[] }, { accessFlags := 16, nameIndex := 85, descriptorIndex := 86, attributes := #[] }, { accessFlags := 2, nameIndex := 217, descriptorIndex := 69, attributes := #[] }, { accessFlags := 2, nameIndex := 210, descriptorIndex := 211, attributes := #[] }] 1056 4 #[444, 48] #[{ accessFlags := 0, nameIndex := 17, descriptorIndex := 14, attributes := #[] }, { accessFlags := 0, nameIndex := 24, descriptorIndex := 25, attributes := #[] }, { accessFlags := 0, nameIndex := 75, descriptorIndex := 21, attributes := #[] }, { accessFlags := 0, nameIndex := 81, descriptorIndex := 82, attributes := #[] }, { accessFlags := 26, nameIndex := 13, descriptorIndex := 14, attributes := #[] }])
  fields := #[{ name := "value", type := (.array .byte), accessFlags := 0, slot := 0, constantValue := 0 }, { name := "coder", type := .byte, accessFlags := 0, slot := 1, constantValue := 0 }, { name := "maybeLatin1", type := .boolean, accessFlags := 0, slot := 2, constantValue := 0 }, { name := "count", type := .int, accessFlags := 0, slot := 3, constantValue := 0 }, { name := "EMPTYVALUE", type := (.array .byte), accessFlags := 26, slot := 0, constantValue := 0 }]
  methods := #[k12m0, k12m1, k12m2, k12m3, k12m4, k12m5, k12m6, k12m7, k12m8]
  instanceTypes := #[(.array .byte), .byte, .boolean, .int]
  staticTypes := #[(.array .byte)]
  resolved := Array.replicate 609 none
  statics := none }

def pool13 : Array CpInfo := pool [(1, .methodref 2 3), (0, .class_ 4), (0, .nameAndType 5 6), (0, u "java/lang/AbstractStringBuilder"), (0, u "<init>"), (0, u "(I)V"), (11, .class_ 20), (1, u "java/lang/String"), (3, .class_ 26), (1, u "java/lang/StringBuilder"), (0, u "append"), (0, u "(Ljava/lang/String;)Ljava/lang/StringBuilder;"), (0, .methodref 2 30), (0, .nameAndType 27 31), (0, u "(Ljava/lang/String;)Ljava/lang/AbstractStringBuilder;"), (105, .methodref 18 138), (0, .nameAndType 5 139), (0, u "(Ljava/lang/StringBuilder;)V"), (5, u "()V"), (10, u "()I"), (186, .methodref 2 344), (0, .nameAndType 345 156), (0, u "length"), (3, .class_ 350), (0, u "java/lang/Appendable"), (0, .class_ 352), (0, u "java/io/Serializable"), (0, .class_ 354), (0, u "java/lang/Comparable"), (0, .class_ 356), (0, u "java/lang/CharSequence"), (0, u "serialVersionUID"), (0, u "J"), (40, u "toString"), (0, u "()Ljava/lang/String;")] 21

def k13c0 : Code := { maxStack := 2, maxLocals := 1, code := jdk_67_method_1_code, exceptionTable := #[], attributes := #[] }
def k13m0 : Method := { name := "<init>", desc := "()V", sig := { parameters := [], returnType := none }, accessFlags := 1, code := some k13c0 }
def k13c1 : Code := { maxStack := 2, maxLocals := 2, code := jdk_67_method_7_code, exceptionTable := #[], attributes := #[] }
def k13m1 : Method := { name := "append", desc := "(Ljava/lang/String;)Ljava/lang/StringBuilder;", sig := { parameters := [(.object "java/lang/String")], returnType := some (.object "java/lang/StringBuilder") }, accessFlags := 1, code := some k13c1 }
def k13c2 : Code := { maxStack := 3, maxLocals := 1, code := jdk_67_method_42_code, exceptionTable := #[], attributes := #[] }
def k13m2 : Method := { name := "toString", desc := "()Ljava/lang/String;", sig := { parameters := [], returnType := some (.object "java/lang/String") }, accessFlags := 1, code := some k13c2 }
def k13c3 : Code := { maxStack := 1, maxLocals := 1, code := jdk_67_method_93_code, exceptionTable := #[], attributes := #[] }
def k13m3 : Method := { name := "length", desc := "()I", sig := { parameters := [], returnType := some .int }, accessFlags := 4161, code := some k13c3 }
/-- java/lang/StringBuilder -/
def k13 : Class := { plain "java/lang/StringBuilder" (some 12) with
  accessFlags := 49
  interfaces := #[11, 2, 3, 4]
  cf := some (fileOf pool13 24 #[] #[{ accessFlags := 1, nameIndex := 5, descriptorIndex := 145, attributes := #[] }, { accessFlags := 1, nameIndex := 27, descriptorIndex := 28, attributes := #[] }, { accessFlags := 1, nameIndex := 399, descriptorIndex := 400, attributes := #[] }, { accessFlags := 4161, nameIndex := 345, descriptorIndex := 156, attributes := #[] }] 49 2 #[349, 351, 353, 355] #[{ accessFlags := 24, nameIndex := 357, descriptorIndex := 358, attributes := #[] }])
  fields := #[{ name := "serialVersionUID", type := .long, accessFlags := 24, slot := 0, constantValue := 0 }]
  methods := #[k13m0, k13m1, k13m2, k13m3]
  instanceTypes := #[(.array .byte), .byte, .boolean, .int]
  staticTypes := #[.long]
  resolved := Array.replicate 422 none
  statics := none }

def pool14 : Array CpInfo := pool [(2, .class_ 4), (1, u "java/lang/Object"), (0, u "<init>"), (0, u "()V"), (1, .class_ 10), (1, u "java/lang/System"), (0, u "allowSecurityManager"), (0, u "I"), (16, u "cons"), (0, u "Ljava/io/Console;"), (77, .class_ 110), (1, u "java/lang/System$CallersHolder"), (43, u "initialErrStream"), (0, u "Ljava/io/PrintStream;"), (19, u "security"), (0, u "Ljava/lang/SecurityManager;"), (31, .class_ 209), (0, u "java/lang/System$1"), (7, u "props"), (0, u "Ljava/util/Properties;"), (2, u "lineSeparator"), (0, u "Ljava/lang/String;"), (96, .class_ 321), (1, u "java/lang/System$LoggerFinder"), (5, .class_ 328), (0, u "java/lang/System$Logger"), (67, u "err"), (2, u "out"), (91, u "notSupportedJnuEncoding"), (15, u "in"), (17, u "initialIn"), (0, u "Ljava/io/InputStream;"), (35, u "bootLayer"), (0, u "Ljava/lang/ModuleLayer;"), (99, .class_ 664), (0, u "java/lang/System$2"), (9, u "NEVER"), (2, u "MAYBE"), (49, u "arraycopy"), (0, u "(Ljava/lang/Object;ILjava/lang/Object;II)V"), (72, .class_ 802), (0, u "java/lang/System$Logger$Level")] 31

def k14m0 : Method := { name := "<init>", desc := "()V", sig := { parameters := [], returnType := none }, accessFlags := 2, code := none }
def k14m1 : Method := { name := "arraycopy", desc := "(Ljava/lang/Object;ILjava/lang/Object;II)V", sig := { parameters := [(.object "java/lang/Object"), .int, (.object "java/lang/Object"), .int, .int], returnType := none }, accessFlags := 265, code := none }
/-- java/lang/System -/
def k14 : Class := { plain "java/lang/System" (some 0) with
  accessFlags := 49
  interfaces := #[]
  cf := some (fileOf pool14 8 #[.nestMembers #[319, 327, 801, 108, 663, 208]] #[{ accessFlags := 2, nameIndex := 5, descriptorIndex := 6, attributes := #[] }, { accessFlags := 265, nameIndex := 727, descriptorIndex := 728, attributes := #[] }] 49 2 #[] #[{ accessFlags := 25, nameIndex := 507, descriptorIndex := 526, attributes := #[] }, { accessFlags := 25, nameIndex := 399, descriptorIndex := 155, attributes := #[] }, { accessFlags := 25, nameIndex := 396, descriptorIndex := 155, attributes := #[] }, { accessFlags := 10, nameIndex := 525, descriptorIndex := 526, attributes := #[] }, { accessFlags := 26, nameIndex := 674, descriptorIndex := 12, attributes := #[] }, { accessFlags := 26, nameIndex := 677, descriptorIndex := 12, attributes := #[] }, { accessFlags := 10, nameIndex := 11, descriptorIndex := 12, attributes := #[] }, { accessFlags := 74, nameIndex := 175, descriptorIndex := 176, attributes := #[] }, { accessFlags := 10, nameIndex := 491, descriptorIndex := 222, attributes := #[] }, { accessFlags := 74, nameIndex := 29, descriptorIndex := 30, attributes := #[] }, { accessFlags := 74, nameIndex := 154, descriptorIndex := 155, attributes := #[] }, { accessFlags := 10, nameIndex := 217, descriptorIndex := 218, attributes := #[] }, { accessFlags := 10, nameIndex := 221, descriptorIndex := 222, attributes := #[] }, { accessFlags := 8, nameIndex := 562, descriptorIndex := 563, attributes := #[] }])
  fields := #[{ name := "in", type := (.object "java/io/InputStream"), accessFlags := 25, slot := 0, constantValue := 0 }, { name := "out", type := (.object "java/io/PrintStream"), accessFlags := 25, slot := 1, constantValue := 0 }, { name := "err", type := (.object "java/io/PrintStream"), accessFlags := 25, slot := 2, constantValue := 0 }, { name := "initialIn", type := (.object "java/io/InputStream"), accessFlags := 10, slot := 3, constantValue := 0 }, { name := "NEVER", type := .int, accessFlags := 26, slot := 4, constantValue := 0 }, { name := "MAYBE", type := .int, accessFlags := 26, slot := 5, constantValue := 0 }, { name := "allowSecurityManager", type := .int, accessFlags := 10, slot := 6, constantValue := 0 }, { name := "security", type := (.object "java/lang/SecurityManager"), accessFlags := 74, slot := 7, constantValue := 0 }, { name := "notSupportedJnuEncoding", type := (.object "java/lang/String"), accessFlags := 10, slot := 8, constantValue := 0 }, { name := "cons", type := (.object "java/io/Console"), accessFlags := 74, slot := 9, constantValue := 0 }, { name := "initialErrStream", type := (.object "java/io/PrintStream"), accessFlags := 74, slot := 10, constantValue := 0 }, { name := "props", type := (.object "java/util/Properties"), accessFlags := 10, slot := 11, constantValue := 0 }, { name := "lineSeparator", type := (.object "java/lang/String"), accessFlags := 10, slot := 12, constantValue := 0 }, { name := "bootLayer", type := (.object "java/lang/ModuleLayer"), accessFlags := 8, slot := 13, constantValue := 0 }]
  methods := #[k14m0, k14m1]
  instanceTypes := #[]
  staticTypes := #[(.object "java/io/InputStream"), (.object "java/io/PrintStream"), (.object "java/io/PrintStream"), (.object "java/io/InputStream"), .int, .int, .int, (.object "java/lang/SecurityManager"), (.object "java/lang/String"), (.object "java/io/Console"), (.object "java/io/PrintStream"), (.object "java/util/Properties"), (.object "java/lang/String"), (.object "java/lang/ModuleLayer")]
  resolved := Array.replicate 834 none
  statics := none }

def pool15 : Array CpInfo := pool [(2, .class_ 4), (1, u "java/lang/Object"), (0, u "<init>"), (0, u "()V"), (7, .class_ 16), (1, u "java/util/Arrays"), (57, .class_ 76), (1, u "java/util/Arrays$NaturalOrder"), (36, .class_ 115), (1, u "java/util/Arrays$LegacyMergeSort"), (1, u "Z"), (21, u "copyOfRange"), (10, .methodref 151 152), (0, .class_ 153), (0, .nameAndType 154 155), (0, u "java/lang/System"), (0, u "arraycopy"), (0, u "(Ljava/lang/Object;ILjava/lang/Object;II)V"), (148, .methodref 305 306), (0, .class_ 307), (0, .nameAndType 308 309), (0, u "java/lang/Math"), (0, u "min"), (0, u "(II)I"), (29, .methodref 14 340), (0, .nameAndType 341 342), (0, u "copyOfRangeByte"), (0, u "([BII)[B"), (0, .methodref 14 344), (0, .nameAndType 345 346), (0, u "checkLength"), (0, u "(II)V"), (28, .class_ 376), (0, u "java/util/Arrays$ArrayList"), (68, u "$assertionsDisabled"), (269, u "MIN_ARRAY_SORT_GRAN"), (0, u "I"), (2, u "INSERTIONSORT_THRESHOLD"), (255, .class_ 976), (0, u "java/util/Arrays$ArrayItr")] 52

def k15m0 : Method := { name := "<init>", desc := "()V", sig := { parameters := [], returnType := none }, accessFlags := 2, code := none }
def k15c1 : Code := { maxStack := 4, maxLocals := 2, code := jdk_65_method_131_code, exceptionTable := #[], attributes := #[] }
def k15m1 : Method := { name := "checkLength", desc := "(II)V", sig := { parameters := [.int, .int], returnType := none }, accessFlags := 10, code := some k15c1 }
def k15c2 : Code := { maxStack := 3, maxLocals := 3, code := jdk_65_method_132_code, exceptionTable := #[], attributes := #[] }
def k15m2 : Method := { name := "copyOfRange", desc := "([BII)[B", sig := { parameters := [(.array .byte), .int, .int], returnType := some (.array .byte) }, accessFlags := 9, code := some k15c2 }
def k15c3 : Code := { maxStack := 6, maxLocals := 5, code := jdk_65_method_133_code, exceptionTable := #[], attributes := #[] }
def k15m3 : Method := { name := "copyOfRangeByte", desc := "([BII)[B", sig := { parameters := [(.array .byte), .int, .int], returnType := some (.array .byte) }, accessFlags := 10, code := some k15c3 }
/-- java/util/Arrays -/
def k15 : Class := { plain "java/util/Arrays" (some 0) with
  accessFlags := 49
  interfaces := #[]
  cf := some (fileOf pool15 14 #[.nestMembers #[975, 375, 113, 74]] #[{ accessFlags := 2, nameIndex := 5, descriptorIndex := 6, attributes := #[] }, { accessFlags := 10, nameIndex := 345, descriptorIndex := 346, attributes := #[] }, { accessFlags := 9, nameIndex := 139, descriptorIndex := 342, attributes := #[] }, { accessFlags := 10, nameIndex := 341, descriptorIndex := 342, attributes := #[] }] 49 2 #[] #[{ accessFlags := 26, nameIndex := 715, descriptorIndex := 716, attributes := #[] }, { accessFlags := 26, nameIndex := 719, descriptorIndex := 716, attributes := #[] }, { accessFlags := 4120, nameIndex := 445, descriptorIndex := 117, attributes := #[] }])
  fields := #[{ name := "MIN_ARRAY_SORT_GRAN", type := .int, accessFlags := 26, slot := 0, constantValue := 0 }, { name := "INSERTIONSORT_THRESHOLD", type := .int, accessFlags := 26, slot := 1, constantValue := 0 }, { name := "$assertionsDisabled", type := .boolean, accessFlags := 4120, slot := 2, constantValue := 0 }]
  methods := #[k15m0, k15m1, k15m2, k15m3]
  instanceTypes := #[]
  staticTypes := #[.int, .int, .boolean]
  resolved := Array.replicate 1029 none
  statics := none }

def pool16 : Array CpInfo := pool [(1, .class_ 2), (0, u "java/lang/Math"), (1, .class_ 6), (1, u "java/lang/Object"), (0, u "<init>"), (0, u "()V"), (89, .class_ 100), (1, u "java/lang/Math$RandomNumberGeneratorHolder"), (71, u "negativeZeroFloatBits"), (0, u "J"), (2, u "negativeZeroDoubleBits"), (24, u "min"), (43, u "$assertionsDisabled"), (0, u "Z"), (88, u "(II)I"), (2, u "twoToTheDoubleScaleDown"), (0, u "D"), (4, u "twoToTheDoubleScaleUp"), (9, u "E"), (3, u "PI"), (2, u "TAU"), (2, u "DEGREES_TO_RADIANS"), (0, u "RADIANS_TO_DEGREES")] 94

def k16m0 : Method := { name := "<init>", desc := "()V", sig := { parameters := [], returnType := none }, accessFlags := 2, code := none }
def k16c1 : Code := { maxStack := 2, maxLocals := 2, code := jdk_29_method_69_code, exceptionTable := #[], attributes := #[] }
def k16m1 : Method := { name := "min", desc := "(II)I", sig := { parameters := [.int, .int], returnType := some .int }, accessFlags := 9, code := some k16c1 }
/-- java/lang/Math -/
def k16 : Class := { plain "java/lang/Math" (some 0) with
  accessFlags := 49
  interfaces := #[]
  cf := some (fileOf pool16 1 #[.nestMembers #[98]] #[{ accessFlags := 2, nameIndex := 7, descriptorIndex := 8, attributes := #[] }, { accessFlags := 9, nameIndex := 201, descriptorIndex := 335, attributes := #[] }] 49 4 #[] #[{ accessFlags := 25, nameIndex := 354, descriptorIndex := 339, attributes := #[] }, { accessFlags := 25, nameIndex := 358, descriptorIndex := 339, attributes := #[] }, { accessFlags := 25, nameIndex := 361, descriptorIndex := 339, attributes := #[] }, { accessFlags := 26, nameIndex := 364, descriptorIndex := 339, attributes := #[] }, { accessFlags := 26, nameIndex := 365, descriptorIndex := 339, attributes := #[] }, { accessFlags := 26, nameIndex := 172, descriptorIndex := 173, attributes := #[] }, { accessFlags := 26, nameIndex := 176, descriptorIndex := 173, attributes := #[] }, { accessFlags := 8, nameIndex := 344, descriptorIndex := 339, attributes := #[] }, { accessFlags := 8, nameIndex := 338, descriptorIndex := 339, attributes := #[] }, { accessFlags := 4120, nameIndex := 245, descriptorIndex := 246, attributes := #[] }])
  fields := #[{ name := "E", type := .double, accessFlags := 25, slot := 0, constantValue := 0 }, { name := "PI", type := .double, accessFlags := 25, slot := 1, constantValue := 0 }, { name := "TAU", type := .double, accessFlags := 25, slot := 2, constantValue := 0 }, { name := "DEGREES_TO_RADIANS", type := .double, accessFlags := 26, slot := 3, constantValue := 0 }, { name := "RADIANS_TO_DEGREES", type := .double, accessFlags := 26, slot := 4, constantValue := 0 }, { name := "negativeZeroFloatBits", type := .long, accessFlags := 26, slot := 5, constantValue := 0 }, { name := "negativeZeroDoubleBits", type := .long, accessFlags := 26, slot := 6, constantValue := 0 }, { name := "twoToTheDoubleScaleUp", type := .double, accessFlags := 8, slot := 7, constantValue := 0 }, { name := "twoToTheDoubleScaleDown", type := .double, accessFlags := 8, slot := 8, constantValue := 0 }, { name := "$assertionsDisabled", type := .boolean, accessFlags := 4120, slot := 9, constantValue := 0 }]
  methods := #[k16m0, k16m1]
  instanceTypes := #[]
  staticTypes := #[.double, .double, .double, .double, .double, .long, .long, .double, .double, .boolean]
  resolved := Array.replicate 460 none
  statics := none }

def pool17 : Array CpInfo := pool [(2, .class_ 4), (1, u "java/lang/Object"), (0, u "<init>"), (0, u "()V"), (17, .class_ 26), (1, u "jdk/internal/util/Preconditions"), (6, u "checkIndex"), (21, .class_ 56), (0, u "jdk/internal/util/Preconditions$4"), (57, .class_ 115), (0, u "jdk/internal/util/Preconditions$1"), (7, u "SIOOBE_FORMATTER"), (0, u "Ljava/util/function/BiFunction;"), (0, .class_ 126), (0, u "jdk/internal/util/Preconditions$2"), (3, u "AIOOBE_FORMATTER"), (0, .class_ 132), (0, u "jdk/internal/util/Preconditions$3"), (3, u "IOOBE_FORMATTER"), (41, u "(IILjava/util/function/BiFunction;)I")] 15

def k17m0 : Method := { name := "<init>", desc := "()V", sig := { parameters := [], returnType := none }, accessFlags := 1, code := none }
def k17c1 : Code := { maxStack := 3, maxLocals := 3, code := jdk_41_method_11_code, exceptionTable := #[], attributes := #[] }
def k17m1 : Method := { name := "checkIndex", desc := "(IILjava/util/function/BiFunction;)I", sig := { parameters := [.int, .int, (.object "java/util/function/BiFunction")], returnType := some .int }, accessFlags := 9, code := some k17c1 }
/-- jdk/internal/util/Preconditions -/
def k17 : Class := { plain "jdk/internal/util/Preconditions" (some 0) with
  accessFlags := 33
  interfaces := #[]
  cf := some (fileOf pool17 24 #[.nestMembers #[55, 131, 125, 114]] #[{ accessFlags := 1, nameIndex := 5, descriptorIndex := 6, attributes := #[] }, { accessFlags := 9, nameIndex := 33, descriptorIndex := 178, attributes := #[] }] 33 2 #[] #[{ accessFlags := 25, nameIndex := 123, descriptorIndex := 124, attributes := #[] }, { accessFlags := 25, nameIndex := 130, descriptorIndex := 124, attributes := #[] }, { accessFlags := 25, nameIndex := 136, descriptorIndex := 124, attributes := #[] }])
  fields := #[{ name := "SIOOBE_FORMATTER", type := (.object "java/util/function/BiFunction"), accessFlags := 25, slot := 0, constantValue := 0 }, { name := "AIOOBE_FORMATTER", type := (.object "java/util/function/BiFunction"), accessFlags := 25, slot := 1, constantValue := 0 }, { name := "IOOBE_FORMATTER", type := (.object "java/util/function/BiFunction"), accessFlags := 25, slot := 2, constantValue := 0 }]
  methods := #[k17m0, k17m1]
  instanceTypes := #[]
  staticTypes := #[(.object "java/util/function/BiFunction"), (.object "java/util/function/BiFunction"), (.object "java/util/function/BiFunction")]
  resolved := Array.replicate 194 none
  statics := some 1 }

def pool18 : Array CpInfo := pool [(6, .class_ 8), (1, u "java/lang/Object"), (0, u "<init>"), (0, u "()V"), (1, .class_ 14), (1, u "java/lang/StringUTF16"), (31, u "$assertionsDisabled"), (0, u "Z"), (13, u "HI_BYTE_SHIFT"), (0, u "I"), (2, u "LO_BYTE_SHIFT"), (49, .methodref 12 116), (0, .nameAndType 117 118), (0, u "compress"), (0, u "([CI[BII)I"), (3, u "([CII)[B"), (138, u "coderFromArrayLen"), (0, u "([BI)B"), (106, .class_ 371), (1, u "java/lang/StringUTF16$LinesSpliterator"), (58, u "MAX_LENGTH"), (196, .class_ 628), (0, u "java/lang/StringUTF16$CodePointsSpliterator"), (0, .class_ 630), (0, u "java/lang/StringUTF16$CharsSpliterator")] 4

def k18m0 : Method := { name := "<init>", desc := "()V", sig := { parameters := [], returnType := none }, accessFlags := 0, code := none }
def k18c1 : Code := { maxStack := 2, maxLocals := 2, code := jdk_52_method_15_code, exceptionTable := #[], attributes := #[] }
def k18m1 : Method := { name := "coderFromArrayLen", desc := "([BI)B", sig := { parameters := [(.array .byte), .int], returnType := some .byte }, accessFlags := 8, code := some k18c1 }
def k18c2 : Code := { maxStack := 5, maxLocals := 6, code := jdk_52_method_16_code, exceptionTable := #[], attributes := #[] }
def k18m2 : Method := { name := "compress", desc := "([CII)[B", sig := { parameters := [(.array .char), .int, .int], returnType := some (.array .byte) }, accessFlags := 9, code := some k18c2 }
def k18c3 : Code := { maxStack := 3, maxLocals := 7, code := jdk_52_method_21_code, exceptionTable := #[], attributes := #[] }
def k18m3 : Method := { name := "compress", desc := "([CI[BII)I", sig := { parameters := [(.array .char), .int, (.array .byte), .int, .int], returnType := some .int }, accessFlags := 9, code := some k18c3 }
/-- java/lang/StringUTF16 -/
def k18 : Class := { plain "java/lang/StringUTF16" (some 0) with
  accessFlags := 48
  interfaces := #[]
  cf := some (fileOf pool18 12 #[.nestMembers #[627, 629, 369]] #[{ accessFlags := 0, nameIndex := 9, descriptorIndex := 10, attributes := #[] }, { accessFlags := 8, nameIndex := 261, descriptorIndex := 262, attributes := #[] }, { accessFlags := 9, nameIndex := 117, descriptorIndex := 122, attributes := #[] }, { accessFlags := 9, nameIndex := 117, descriptorIndex := 118, attributes := #[] }] 48 6 #[] #[{ accessFlags := 26, nameIndex := 61, descriptorIndex := 62, attributes := #[] }, { accessFlags := 26, nameIndex := 65, descriptorIndex := 62, attributes := #[] }, { accessFlags := 24, nameIndex := 430, descriptorIndex := 62, attributes := #[] }, { accessFlags := 4120, nameIndex := 46, descriptorIndex := 47, attributes := #[] }])
  fields := #[{ name := "HI_BYTE_SHIFT", type := .int, accessFlags := 26, slot := 0, constantValue := 0 }, { name := "LO_BYTE_SHIFT", type := .int, accessFlags := 26, slot := 1, constantValue := 0 }, { name := "MAX_LENGTH", type := .int, accessFlags := 24, slot := 2, constantValue := 0 }, { name := "$assertionsDisabled", type := .boolean, accessFlags := 4120, slot := 3, constantValue := 0 }]
  methods := #[k18m0, k18m1, k18m2, k18m3]
  instanceTypes := #[]
  staticTypes := #[.int, .int, .int, .boolean]
  resolved := Array.replicate 635 none
  statics := none }

def pool19 : Array CpInfo := pool [(9, u "<init>"), (6, .class_ 18), (1, u "java/lang/Object"), (0, u "()V"), (1, .class_ 23), (1, u "jdk/internal/util/ArraysSupport"), (0, u "LOG2_ARRAY_LONG_INDEX_SCALE"), (0, u "I"), (2, u "U"), (0, u "Ljdk/internal/misc/Unsafe;"), (8, u "BIG_ENDIAN"), (0, u "Z"), (8, u "LOG2_BYTE_BIT_SIZE"), (4, u "LOG2_ARRAY_INT_INDEX_SCALE"), (54, u "JLA"), (0, u "Ljdk/internal/access/JavaLangAccess;"), (11, u "LOG2_ARRAY_BOOLEAN_INDEX_SCALE"), (9, u "LOG2_ARRAY_BYTE_INDEX_SCALE"), (5, u "LOG2_ARRAY_CHAR_INDEX_SCALE"), (5, u "LOG2_ARRAY_SHORT_INDEX_SCALE"), (18, u "LOG2_ARRAY_FLOAT_INDEX_SCALE"), (24, u "LOG2_ARRAY_DOUBLE_INDEX_SCALE"), (89, u "T_BOOLEAN"), (2, u "T_CHAR"), (1, u "T_FLOAT"), (1, u "T_DOUBLE"), (1, u "T_BYTE"), (1, u "T_SHORT"), (1, u "T_INT"), (1, u "T_LONG"), (1, u "SOFT_MAX_ARRAY_LENGTH")] 83

def k19m0 : Method := { name := "<init>", desc := "()V", sig := { parameters := [], returnType := none }, accessFlags := 2, code := none }
/-- jdk/internal/util/ArraysSupport -/
def k19 : Class := { plain "jdk/internal/util/ArraysSupport" (some 0) with
  accessFlags := 33
  interfaces := #[]
  cf := some (fileOf pool19 21 #[] #[{ accessFlags := 2, nameIndex := 9, descriptorIndex := 19, attributes := #[] }] 33 16 #[] #[{ accessFlags := 24, nameIndex := 28, descriptorIndex := 29, attributes := #[] }, { accessFlags := 26, nameIndex := 38, descriptorIndex := 39, attributes := #[] }, { accessFlags := 25, nameIndex := 121, descriptorIndex := 25, attributes := #[] }, { accessFlags := 25, nameIndex := 131, descriptorIndex := 25, attributes := #[] }, { accessFlags := 25, nameIndex := 137, descriptorIndex := 25, attributes := #[] }, { accessFlags := 25, nameIndex := 143, descriptorIndex := 25, attributes := #[] }, { accessFlags := 25, nameIndex := 53, descriptorIndex := 25, attributes := #[] }, { accessFlags := 25, nameIndex := 24, descriptorIndex := 25, attributes := #[] }, { accessFlags := 25, nameIndex := 162, descriptorIndex := 25, attributes := #[] }, { accessFlags := 25, nameIndex := 187, descriptorIndex := 25, attributes := #[] }, { accessFlags := 26, nameIndex := 48, descriptorIndex := 25, attributes := #[] }, { accessFlags := 25, nameIndex := 277, descriptorIndex := 25, attributes := #[] }, { accessFlags := 25, nameIndex := 280, descriptorIndex := 25, attributes := #[] }, { accessFlags := 25, nameIndex := 282, descriptorIndex := 25, attributes := #[] }, { accessFlags := 25, nameIndex := 284, descriptorIndex := 25, attributes := #[] }, { accessFlags := 25, nameIndex := 286, descriptorIndex := 25, attributes := #[] }, { accessFlags := 25, nameIndex := 288, descriptorIndex := 25, attributes := #[] }, { accessFlags := 25, nameIndex := 290, descriptorIndex := 25, attributes := #[] }, { accessFlags := 25, nameIndex := 292, descriptorIndex := 25, attributes := #[] }, { accessFlags := 26, nameIndex := 108, descriptorIndex := 109, attributes := #[] }, { accessFlags := 25, nameIndex := 294, descriptorIndex := 25, attributes := #[] }])
  fields := #[{ name := "U", type := (.object "jdk/internal/misc/Unsafe"), accessFlags := 24, slot := 0, constantValue := 0 }, { name := "BIG_ENDIAN", type := .boolean, accessFlags := 26, slot := 1, constantValue := 0 }, { name := "LOG2_ARRAY_BOOLEAN_INDEX_SCALE", type := .int, accessFlags := 25, slot := 2, constantValue := 0 }, { name := "LOG2_ARRAY_BYTE_INDEX_SCALE", type := .int, accessFlags := 25, slot := 3, constantValue := 0 }, { name := "LOG2_ARRAY_CHAR_INDEX_SCALE", type := .int, accessFlags := 25, slot := 4, constantValue := 0 }, { name := "LOG2_ARRAY_SHORT_INDEX_SCALE", type := .int, accessFlags := 25, slot := 5, constantValue := 0 }, { name := "LOG2_ARRAY_INT_INDEX_SCALE", type := .int, accessFlags := 25, slot := 6, constantValue := 0 }, { name := "LOG2_ARRAY_LONG_INDEX_SCALE", type := .int, accessFlags := 25, slot := 7, constantValue := 0 }, { name := "LOG2_ARRAY_FLOAT_INDEX_SCALE", type := .int, accessFlags := 25, slot := 8, constantValue := 0 }, { name := "LOG2_ARRAY_DOUBLE_INDEX_SCALE", type := .int, accessFlags := 25, slot := 9, constantValue := 0 }, { name := "LOG2_BYTE_BIT_SIZE", type := .int, accessFlags := 26, slot := 10, constantValue := 0 }, { name := "T_BOOLEAN", type := .int, accessFlags := 25, slot := 11, constantValue := 0 }, { name := "T_CHAR", type := .int, accessFlags := 25, slot := 12, constantValue := 0 }, { name := "T_FLOAT", type := .int, accessFlags := 25, slot := 13, constantValue := 0 }, { name := "T_DOUBLE", type := .int, accessFlags := 25, slot := 14, constantValue := 0 }, { name := "T_BYTE", type := .int, accessFlags := 25, slot := 15, constantValue := 0 }, { name := "T_SHORT", type := .int, accessFlags := 25, slot := 16, constantValue := 0 }, { name := "T_INT", type := .int, accessFlags := 25, slot := 17, constantValue := 0 }, { name := "T_LONG", type := .int, accessFlags := 25, slot := 18, constantValue := 0 }, { name := "JLA", type := (.object "jdk/internal/access/JavaLangAccess"), accessFlags := 26, slot := 19, constantValue := 0 }, { name := "SOFT_MAX_ARRAY_LENGTH", type := .int, accessFlags := 25, slot := 20, constantValue := 0 }]
  methods := #[k19m0]
  instanceTypes := #[]
  staticTypes := #[(.object "jdk/internal/misc/Unsafe"), .boolean, .int, .int, .int, .int, .int, .int, .int, .int, .int, .int, .int, .int, .int, .int, .int, .int, .int, (.object "jdk/internal/access/JavaLangAccess"), .int]
  resolved := Array.replicate 378 none
  statics := none }

def pool20 : Array CpInfo := pool [(1, u "java/lang/Cloneable"), (0, .class_ 1), (0, u "java/lang/Object"), (0, .class_ 3)] 3

/-- java/lang/Cloneable -/
def k20 : Class := { plain "java/lang/Cloneable" (some 0) with
  accessFlags := 1537
  interfaces := #[]
  cf := some (fileOf pool20 2 #[] #[] 1537 4 #[] #[])
  fields := #[]
  methods := #[]
  instanceTypes := #[]
  staticTypes := #[]
  resolved := Array.replicate 8 none
  statics := none }

/-- the primitive byte -/
def k21 : Class := { plain "byte" none with kind := .primitive 'B', accessFlags := 0x411 }
/-- [B -/
def k22 : Class := { plain "[B" (some 0) with kind := .array 21 .byte, interfaces := #[20, 2], accessFlags := 1041 }

/-- the primitive char -/
def k23 : Class := { plain "char" none with kind := .primitive 'C', accessFlags := 0x411 }
/-- [C -/
def k24 : Class := { plain "[C" (some 0) with kind := .array 23 .char, interfaces := #[20, 2], accessFlags := 1041 }

/-- the primitive int -/
def k25 : Class := { plain "int" none with kind := .primitive 'I', accessFlags := 0x411 }
/-- [I -/
def k26 : Class := { plain "[I" (some 0) with kind := .array 25 .int, interfaces := #[20, 2], accessFlags := 1041 }

def heap : Heap := #[{ cls := 7, slots := #[.long 0, .int 1, .null, .int 0, .null, .int 0, .int 0], vm := .statics 7 },
  { cls := 17, slots := #[.null, .null, .null], vm := .statics 17 }]
def classes : Array Class := #[k0, k1, k2, k3, k4, k5, k6, k7, k8, k9, k10, k11, k12, k13, k14, k15, k16, k17, k18, k19, k20, k21, k22, k23, k24, k25, k26]
def interned : List (Array UInt16 × Addr) := []
def slotsUsed : Nat := 10
def theMethod : MethodId := ⟨1, 4⟩
def args0 : Array Value := #[.int 1, .int 2, .int 3, .int 4]
def aboutOver (below : List Frame) : State where
  vm := { classes := classes, interned := interned.toArray }
  heap := heap
  slotsUsed := slotsUsed
  threads := #[{ frames := .invoking theMethod args0 :: below }]
def below0 : List Frame := [.native { method := ⟨0, 0⟩, args := #[] }]
def about1 : State := aboutOver below0
def p0 : Program := .bare "" "" ""
def e0 : Env := launch0.env 0 0 0
theorem w_frames : about1.frames = Frame.invoking theMethod args0 :: below0 := rfl
set_option maxRecDepth 65536 in
theorem w_args : argsFit about1.vm theMethod args0 = true := by decide +kernel
set_option maxRecDepth 65536 in
theorem w_heap : heapFits about1 = true := by decide +kernel
set_option maxRecDepth 65536 in
theorem w_runnable : about1.curStatus? = some .runnable := by decide +kernel
set_option maxRecDepth 65536 in
theorem w_alone : about1.alone = true := by decide +kernel
set_option maxRecDepth 65536 in
theorem w_named : about1.methodNamed? x = some theMethod := by decide +kernel
set_option maxRecDepth 65536 in
theorem w_hears : about1.hears theMethod below0 = true := by decide +kernel
set_option maxRecDepth 65536 in
theorem w_ripe : about1.ripe theMethod args0 below0 = true := by decide +kernel
theorem w_running : about1.status = .running := rfl
set_option maxRecDepth 65536 in
theorem w_room : about1.hasRoom e0.platform room_1 = true :=
  launch0.hasRoom_least _ room_1 (by decide +kernel) (by decide +kernel) (by decide +kernel) (by decide +kernel) (by decide +kernel) (by decide +kernel)
theorem allAtoms_all (ts : List Jvm.Cond) (a : Array Jvm.Value) (st : Jvm.State) : (allAtoms ts).before a st = ts.all (fun c => c.before a st) := by
  induction ts with
  | nil => rfl
  | cons c t ih =>
    show (Jvm.Cond.and c (allAtoms t)).before a st = _
    rw [Jvm.Cond.before_and, ih, List.all_cons]
def words1 : List Jvm.Cond := Jvm.Cond.code x code maxLocals ret :: tables_1
/-- a 'code' word, met by the world's own term for the bytes: nothing is compared byte by byte -/
theorem code_word {y : MethodName} {bytes : ByteArray} {mx : Nat} {rt : Option FieldType} {a : Array Value} {s : State} {m : MethodId} {meth : Method} {c : Code} (h1 : s.methodNamed? y = some m) (h2 : s.vm.method? m = some meth) (h3 : meth.code = some c) (h4 : c.code = bytes)
    (h5 : (c.maxLocals == mx && c.exceptionTable.isEmpty && decide (c.maxStack ≤ mostOperands) && decide (meth.sig.returnType = rt) && !meth.locks && decide (parseMethodDescriptor y.desc = some meth.sig)) = true) : (Jvm.Cond.code y bytes mx rt).before a s = true := by
  simp only [Bool.and_eq_true, beq_iff_eq, Bool.not_eq_true', decide_eq_true_eq] at h5
  obtain ⟨⟨⟨⟨⟨g1, g2⟩, g3⟩, g4⟩, g5⟩, g6⟩ := h5
  simp [Cond.before, Cond.holds, Cond.value, h1, h2, h3, h4, g1, g2, g3, g4, g5, g6]
def isCode : Jvm.Cond → Bool
  | .code _ _ _ _ => true
  | _ => false
theorem all_split {L : List Jvm.Cond} {P : Jvm.Cond → Bool} (h1 : L.all (fun c => isCode c || P c) = true) (h2 : ∀ c ∈ L.filter isCode, P c = true) : L.all P = true := by
  refine List.all_eq_true.mpr fun c hc => ?_
  have h := List.all_eq_true.mp h1 c hc
  rcases Bool.eq_false_or_eq_true (isCode c) with hi | hi
  · exact h2 c (List.mem_filter.mpr ⟨hc, hi⟩)
  · simpa [hi] using h
set_option maxRecDepth 65536 in
theorem w_c0 : (Jvm.Cond.code x code maxLocals ret).before args0 about1 = true := code_word (m := ⟨1, 4⟩) (meth := k1m4) (c := k1c4) (by decide +kernel) rfl rfl rfl (by decide +kernel)
set_option maxRecDepth 65536 in
theorem w_c1 : (Jvm.Cond.code ({ cls := "com/example/ledgerline/ledgerline/KeyToStringPinLaw", name := "mk", desc := "(II)Ljava/lang/String;" } : Jvm.MethodName) method_2_code (3 : Nat) (Option.some (Jvm.ClassFile.FieldType.object "java/lang/String"))).before args0 about1 = true := code_word (m := ⟨1, 1⟩) (meth := k1m1) (c := k1c1) (by decide +kernel) rfl rfl rfl (by decide +kernel)
set_option maxRecDepth 65536 in
theorem w_c2 : (Jvm.Cond.code ({ cls := "java/lang/String", name := "valueOf", desc := "(C)Ljava/lang/String;" } : Jvm.MethodName) jdk_42_method_139_code (1 : Nat) (Option.some (Jvm.ClassFile.FieldType.object "java/lang/String"))).before args0 about1 = true := code_word (m := ⟨7, 5⟩) (meth := k7m5) (c := k7c5) (by decide +kernel) rfl rfl rfl (by decide +kernel)
set_option maxRecDepth 65536 in
theorem w_c3 : (Jvm.Cond.code ({ cls := "java/lang/StringLatin1", name := "canEncode", desc := "(C)Z" } : Jvm.MethodName) jdk_43_method_3_code (1 : Nat) (Option.some Jvm.ClassFile.FieldType.boolean)).before args0 about1 = true := code_word (m := ⟨8, 2⟩) (meth := k8m2) (c := k8c2) (by decide +kernel) rfl rfl rfl (by decide +kernel)
set_option maxRecDepth 65536 in
theorem w_c4 : (Jvm.Cond.code ({ cls := "java/lang/StringLatin1", name := "toBytes", desc := "(C)[B" } : Jvm.MethodName) jdk_43_method_46_code (1 : Nat) (Option.some (Jvm.ClassFile.FieldType.array Jvm.ClassFile.FieldType.byte))).before args0 about1 = true := code_word (m := ⟨8, 3⟩) (meth := k8m3) (c := k8c3) (by decide +kernel) rfl rfl rfl (by decide +kernel)
set_option maxRecDepth 65536 in
theorem w_c5 : (Jvm.Cond.code ({ cls := "java/lang/String", name := "<init>", desc := "([BB)V" } : Jvm.MethodName) jdk_42_method_151_code (3 : Nat) (Option.none : Option Jvm.ClassFile.FieldType)).before args0 about1 = true := code_word (m := ⟨7, 9⟩) (meth := k7m9) (c := k7c9) (by decide +kernel) rfl rfl rfl (by decide +kernel)
set_option maxRecDepth 65536 in
theorem w_c6 : (Jvm.Cond.code ({ cls := "java/lang/Object", name := "<init>", desc := "()V" } : Jvm.MethodName) object_method_1_code (1 : Nat) (Option.none : Option Jvm.ClassFile.FieldType)).before args0 about1 = true := code_word (m := ⟨0, 0⟩) (meth := k0m0) (c := k0c0) (by decide +kernel) rfl rfl rfl (by decide +kernel)
set_option maxRecDepth 65536 in
theorem w_c7 : (Jvm.Cond.code ({ cls := "java/lang/String", name := "<init>", desc := "([C)V" } : Jvm.MethodName) jdk_42_method_3_code (2 : Nat) (Option.none : Option Jvm.ClassFile.FieldType)).before args0 about1 = true := code_word (m := ⟨7, 1⟩) (meth := k7m1) (c := k7c1) (by decide +kernel) rfl rfl rfl (by decide +kernel)
set_option maxRecDepth 65536 in
theorem w_c8 : (Jvm.Cond.code ({ cls := "java/lang/String", name := "<init>", desc := "([CIILjava/lang/Void;)V" } : Jvm.MethodName) jdk_42_method_149_code (6 : Nat) (Option.none : Option Jvm.ClassFile.FieldType)).before args0 about1 = true := code_word (m := ⟨7, 7⟩) (meth := k7m7) (c := k7c7) (by decide +kernel) rfl rfl rfl (by decide +kernel)
set_option maxRecDepth 65536 in
theorem w_c9 : (Jvm.Cond.code ({ cls := "com/example/ledgerline/ledgerline/Settlement$Key", name := "<init>", desc := "(Ljava/lang/String;Ljava/lang/String;Ljava/lang/String;)V" } : Jvm.MethodName) prog_59_method_1_code (4 : Nat) (Option.none : Option Jvm.ClassFile.FieldType)).before args0 about1 = true := code_word (m := ⟨10, 0⟩) (meth := k10m0) (c := k10c0) (by decide +kernel) rfl rfl rfl (by decide +kernel)
set_option maxRecDepth 65536 in
theorem w_c10 : (Jvm.Cond.code ({ cls := "java/lang/Record", name := "<init>", desc := "()V" } : Jvm.MethodName) jdk_30_method_1_code (1 : Nat) (Option.none : Option Jvm.ClassFile.FieldType)).before args0 about1 = true := code_word (m := ⟨9, 0⟩) (meth := k9m0) (c := k9c0) (by decide +kernel) rfl rfl rfl (by decide +kernel)
set_option maxRecDepth 65536 in
theorem w_c11 : (Jvm.Cond.code ({ cls := "com/example/ledgerline/ledgerline/Settlement$Key", name := "toString", desc := "()Ljava/lang/String;" } : Jvm.MethodName) prog_59_method_2_code (1 : Nat) (Option.some (Jvm.ClassFile.FieldType.object "java/lang/String"))).before args0 about1 = true := code_word (m := ⟨10, 1⟩) (meth := k10m1) (c := k10c1) (by decide +kernel) rfl rfl rfl (by decide +kernel)
set_option maxRecDepth 65536 in
theorem w_c12 : (Jvm.Cond.code ({ cls := "java/lang/StringBuilder", name := "<init>", desc := "()V" } : Jvm.MethodName) jdk_67_method_1_code (1 : Nat) (Option.none : Option Jvm.ClassFile.FieldType)).before args0 about1 = true := code_word (m := ⟨13, 0⟩) (meth := k13m0) (c := k13c0) (by decide +kernel) rfl rfl rfl (by decide +kernel)
set_option maxRecDepth 65536 in
theorem w_c13 : (Jvm.Cond.code ({ cls := "java/lang/AbstractStringBuilder", name := "<init>", desc := "(I)V" } : Jvm.MethodName) jdk_68_method_2_code (2 : Nat) (Option.none : Option Jvm.ClassFile.FieldType)).before args0 about1 = true := code_word (m := ⟨12, 1⟩) (meth := k12m1) (c := k12c1) (by decide +kernel) rfl rfl rfl (by decide +kernel)
set_option maxRecDepth 65536 in
theorem w_c14 : (Jvm.Cond.code ({ cls := "java/lang/StringBuilder", name := "append", desc := "(Ljava/lang/String;)Ljava/lang/StringBuilder;" } : Jvm.MethodName) jdk_67_method_7_code (2 : Nat) (Option.some (Jvm.ClassFile.FieldType.object "java/lang/StringBuilder"))).before args0 about1 = true := code_word (m := ⟨13, 1⟩) (meth := k13m1) (c := k13c1) (by decide +kernel) rfl rfl rfl (by decide +kernel)
set_option maxRecDepth 65536 in
theorem w_c15 : (Jvm.Cond.code ({ cls := "java/lang/AbstractStringBuilder", name := "append", desc := "(Ljava/lang/String;)Ljava/lang/AbstractStringBuilder;" } : Jvm.MethodName) jdk_68_method_22_code (3 : Nat) (Option.some (Jvm.ClassFile.FieldType.object "java/lang/AbstractStringBuilder"))).before args0 about1 = true := code_word (m := ⟨12, 4⟩) (meth := k12m4) (c := k12c4) (by decide +kernel) rfl rfl rfl (by decide +kernel)
set_option maxRecDepth 65536 in
theorem w_c16 : (Jvm.Cond.code ({ cls := "java/lang/String", name := "length", desc := "()I" } : Jvm.MethodName) jdk_42_method_54_code (1 : Nat) (Option.some Jvm.ClassFile.FieldType.int)).before args0 about1 = true := code_word (m := ⟨7, 3⟩) (meth := k7m3) (c := k7c3) (by decide +kernel) rfl rfl rfl (by decide +kernel)
set_option maxRecDepth 65536 in
theorem w_c17 : (Jvm.Cond.code ({ cls := "java/lang/String", name := "coder", desc := "()B" } : Jvm.MethodName) jdk_42_method_152_code (1 : Nat) (Option.some Jvm.ClassFile.FieldType.byte)).before args0 about1 = true := code_word (m := ⟨7, 10⟩) (meth := k7m10) (c := k7c10) (by decide +kernel) rfl rfl rfl (by decide +kernel)
set_option maxRecDepth 65536 in
theorem w_c18 : (Jvm.Cond.code ({ cls := "java/lang/AbstractStringBuilder", name := "ensureCapacityInternal", desc := "(I)V" } : Jvm.MethodName) jdk_68_method_9_code (3 : Nat) (Option.none : Option Jvm.ClassFile.FieldType)).before args0 about1 = true := code_word (m := ⟨12, 3⟩) (meth := k12m3) (c := k12c3) (by decide +kernel) rfl rfl rfl (by decide +kernel)
set_option maxRecDepth 65536 in
theorem w_c19 : (Jvm.Cond.code ({ cls := "java/lang/AbstractStringBuilder", name := "putStringAt", desc := "(ILjava/lang/String;)V" } : Jvm.MethodName) jdk_68_method_73_code (3 : Nat) (Option.none : Option Jvm.ClassFile.FieldType)).before args0 about1 = true := code_word (m := ⟨12, 8⟩) (meth := k12m8) (c := k12c8) (by decide +kernel) rfl rfl rfl (by decide +kernel)
set_option maxRecDepth 65536 in
theorem w_c20 : (Jvm.Cond.code ({ cls := "java/lang/AbstractStringBuilder", name := "inflateIfNeededFor", desc := "(Ljava/lang/String;)V" } : Jvm.MethodName) jdk_68_method_71_code (2 : Nat) (Option.none : Option Jvm.ClassFile.FieldType)).before args0 about1 = true := code_word (m := ⟨12, 7⟩) (meth := k12m7) (c := k12c7) (by decide +kernel) rfl rfl rfl (by decide +kernel)
set_option maxRecDepth 65536 in
theorem w_c21 : (Jvm.Cond.code ({ cls := "java/lang/String", name := "getBytes", desc := "([BIB)V" } : Jvm.MethodName) jdk_42_method_147_code (4 : Nat) (Option.none : Option Jvm.ClassFile.FieldType)).before args0 about1 = true := code_word (m := ⟨7, 6⟩) (meth := k7m6) (c := k7c6) (by decide +kernel) rfl rfl rfl (by decide +kernel)
set_option maxRecDepth 65536 in
theorem w_c22 : (Jvm.Cond.code ({ cls := "java/lang/StringBuilder", name := "toString", desc := "()Ljava/lang/String;" } : Jvm.MethodName) jdk_67_method_42_code (1 : Nat) (Option.some (Jvm.ClassFile.FieldType.object "java/lang/String"))).before args0 about1 = true := code_word (m := ⟨13, 2⟩) (meth := k13m2) (c := k13c2) (by decide +kernel) rfl rfl rfl (by decide +kernel)
set_option maxRecDepth 65536 in
theorem w_c23 : (Jvm.Cond.code ({ cls := "java/lang/String", name := "<init>", desc := "(Ljava/lang/StringBuilder;)V" } : Jvm.MethodName) jdk_42_method_53_code (2 : Nat) (Option.none : Option Jvm.ClassFile.FieldType)).before args0 about1 = true := code_word (m := ⟨7, 2⟩) (meth := k7m2) (c := k7c2) (by decide +kernel) rfl rfl rfl (by decide +kernel)
set_option maxRecDepth 65536 in
theorem w_c24 : (Jvm.Cond.code ({ cls := "java/lang/String", name := "<init>", desc := "(Ljava/lang/AbstractStringBuilder;Ljava/lang/Void;)V" } : Jvm.MethodName) jdk_42_method_150_code (5 : Nat) (Option.none : Option Jvm.ClassFile.FieldType)).before args0 about1 = true := code_word (m := ⟨7, 8⟩) (meth := k7m8) (c := k7c8) (by decide +kernel) rfl rfl rfl (by decide +kernel)
set_option maxRecDepth 65536 in
theorem w_c25 : (Jvm.Cond.code ({ cls := "java/lang/AbstractStringBuilder", name := "getValue", desc := "()[B" } : Jvm.MethodName) jdk_68_method_64_code (1 : Nat) (Option.some (Jvm.ClassFile.FieldType.array Jvm.ClassFile.FieldType.byte))).before args0 about1 = true := code_word (m := ⟨12, 5⟩) (meth := k12m5) (c := k12c5) (by decide +kernel) rfl rfl rfl (by decide +kernel)
set_option maxRecDepth 65536 in
theorem w_c26 : (Jvm.Cond.code ({ cls := "java/lang/StringBuilder", name := "length", desc := "()I" } : Jvm.MethodName) jdk_67_method_93_code (1 : Nat) (Option.some Jvm.ClassFile.FieldType.int)).before args0 about1 = true := code_word (m := ⟨13, 3⟩) (meth := k13m3) (c := k13c3) (by decide +kernel) rfl rfl rfl (by decide +kernel)
set_option maxRecDepth 65536 in
theorem w_c27 : (Jvm.Cond.code ({ cls := "java/lang/AbstractStringBuilder", name := "length", desc := "()I" } : Jvm.MethodName) jdk_68_method_6_code (1 : Nat) (Option.some Jvm.ClassFile.FieldType.int)).before args0 about1 = true := code_word (m := ⟨12, 2⟩) (meth := k12m2) (c := k12c2) (by decide +kernel) rfl rfl rfl (by decide +kernel)
set_option maxRecDepth 65536 in
theorem w_c28 : (Jvm.Cond.code ({ cls := "java/lang/AbstractStringBuilder", name := "isLatin1", desc := "()Z" } : Jvm.MethodName) jdk_68_method_68_code (1 : Nat) (Option.some Jvm.ClassFile.FieldType.boolean)).before args0 about1 = true := code_word (m := ⟨12, 6⟩) (meth := k12m6) (c := k12c6) (by decide +kernel) rfl rfl rfl (by decide +kernel)
set_option maxRecDepth 65536 in
theorem w_c29 : (Jvm.Cond.code ({ cls := "java/util/Arrays", name := "copyOfRange", desc := "([BII)[B" } : Jvm.MethodName) jdk_65_method_132_code (3 : Nat) (Option.some (Jvm.ClassFile.FieldType.array Jvm.ClassFile.FieldType.byte))).before args0 about1 = true := code_word (m := ⟨15, 2⟩) (meth := k15m2) (c := k15c2) (by decide +kernel) rfl rfl rfl (by decide +kernel)
set_option maxRecDepth 65536 in
theorem w_c30 : (Jvm.Cond.code ({ cls := "java/util/Arrays", name := "copyOfRangeByte", desc := "([BII)[B" } : Jvm.MethodName) jdk_65_method_133_code (5 : Nat) (Option.some (Jvm.ClassFile.FieldType.array Jvm.ClassFile.FieldType.byte))).before args0 about1 = true := code_word (m := ⟨15, 3⟩) (meth := k15m3) (c := k15c3) (by decide +kernel) rfl rfl rfl (by decide +kernel)
set_option maxRecDepth 65536 in
theorem w_c31 : (Jvm.Cond.code ({ cls := "java/util/Arrays", name := "checkLength", desc := "(II)V" } : Jvm.MethodName) jdk_65_method_131_code (2 : Nat) (Option.none : Option Jvm.ClassFile.FieldType)).before args0 about1 = true := code_word (m := ⟨15, 1⟩) (meth := k15m1) (c := k15c1) (by decide +kernel) rfl rfl rfl (by decide +kernel)
set_option maxRecDepth 65536 in
theorem w_c32 : (Jvm.Cond.code ({ cls := "java/lang/Math", name := "min", desc := "(II)I" } : Jvm.MethodName) jdk_29_method_69_code (2 : Nat) (Option.some Jvm.ClassFile.FieldType.int)).before args0 about1 = true := code_word (m := ⟨16, 1⟩) (meth := k16m1) (c := k16c1) (by decide +kernel) rfl rfl rfl (by decide +kernel)
set_option maxRecDepth 65536 in
theorem w_c33 : (Jvm.Cond.code ({ cls := "com/example/ledgerline/ledgerline/KeyToStringPinLaw", name := "ok", desc := "(Ljava/lang/String;Ljava/lang/String;Ljava/lang/String;Ljava/lang/String;I)Z" } : Jvm.MethodName) method_4_code (5 : Nat) (Option.some Jvm.ClassFile.FieldType.boolean)).before args0 about1 = true := code_word (m := ⟨1, 3⟩) (meth := k1m3) (c := k1c3) (by decide +kernel) rfl rfl rfl (by decide +kernel)
set_option maxRecDepth 65536 in
theorem w_c34 : (Jvm.Cond.code ({ cls := "java/lang/String", name := "charAt", desc := "(I)C" } : Jvm.MethodName) jdk_42_method_56_code (2 : Nat) (Option.some Jvm.ClassFile.FieldType.char)).before args0 about1 = true := code_word (m := ⟨7, 4⟩) (meth := k7m4) (c := k7c4) (by decide +kernel) rfl rfl rfl (by decide +kernel)
set_option maxRecDepth 65536 in
theorem w_c35 : (Jvm.Cond.code ({ cls := "java/lang/String", name := "isLatin1", desc := "()Z" } : Jvm.MethodName) jdk_42_method_154_code (1 : Nat) (Option.some Jvm.ClassFile.FieldType.boolean)).before args0 about1 = true := code_word (m := ⟨7, 11⟩) (meth := k7m11) (c := k7c11) (by decide +kernel) rfl rfl rfl (by decide +kernel)
set_option maxRecDepth 65536 in
theorem w_c36 : (Jvm.Cond.code ({ cls := "java/lang/StringLatin1", name := "charAt", desc := "([BI)C" } : Jvm.MethodName) jdk_43_method_2_code (2 : Nat) (Option.some Jvm.ClassFile.FieldType.char)).before args0 about1 = true := code_word (m := ⟨8, 1⟩) (meth := k8m1) (c := k8c1) (by decide +kernel) rfl rfl rfl (by decide +kernel)
set_option maxRecDepth 65536 in
theorem w_c37 : (Jvm.Cond.code ({ cls := "java/lang/String", name := "checkIndex", desc := "(II)V" } : Jvm.MethodName) jdk_42_method_155_code (2 : Nat) (Option.none : Option Jvm.ClassFile.FieldType)).before args0 about1 = true := code_word (m := ⟨7, 12⟩) (meth := k7m12) (c := k7c12) (by decide +kernel) rfl rfl rfl (by decide +kernel)
set_option maxRecDepth 65536 in
theorem w_c38 : (Jvm.Cond.code ({ cls := "jdk/internal/util/Preconditions", name := "checkIndex", desc := "(IILjava/util/function/BiFunction;)I" } : Jvm.MethodName) jdk_41_method_11_code (3 : Nat) (Option.some Jvm.ClassFile.FieldType.int)).before args0 about1 = true := code_word (m := ⟨17, 1⟩) (meth := k17m1) (c := k17c1) (by decide +kernel) rfl rfl rfl (by decide +kernel)
set_option maxRecDepth 65536 in
theorem w_c39 : (Jvm.Cond.code ({ cls := "com/example/ledgerline/ledgerline/KeyToStringPinLaw", name := "at", desc := "(Ljava/lang/String;Ljava/lang/String;Ljava/lang/String;I)C" } : Jvm.MethodName) method_3_code (5 : Nat) (Option.some Jvm.ClassFile.FieldType.char)).before args0 about1 = true := code_word (m := ⟨1, 2⟩) (meth := k1m2) (c := k1c2) (by decide +kernel) rfl rfl rfl (by decide +kernel)
set_option maxRecDepth 65536 in
theorem w_c40 : (Jvm.Cond.code ({ cls := "java/lang/StringUTF16", name := "compress", desc := "([CII)[B" } : Jvm.MethodName) jdk_52_method_16_code (6 : Nat) (Option.some (Jvm.ClassFile.FieldType.array Jvm.ClassFile.FieldType.byte))).before args0 about1 = true := code_word (m := ⟨18, 2⟩) (meth := k18m2) (c := k18c2) (by decide +kernel) rfl rfl rfl (by decide +kernel)
set_option maxRecDepth 65536 in
theorem w_c41 : (Jvm.Cond.code ({ cls := "java/lang/StringUTF16", name := "compress", desc := "([CI[BII)I" } : Jvm.MethodName) jdk_52_method_21_code (7 : Nat) (Option.some Jvm.ClassFile.FieldType.int)).before args0 about1 = true := code_word (m := ⟨18, 3⟩) (meth := k18m3) (c := k18c3) (by decide +kernel) rfl rfl rfl (by decide +kernel)
set_option maxRecDepth 65536 in
theorem w_c42 : (Jvm.Cond.code ({ cls := "java/lang/StringUTF16", name := "coderFromArrayLen", desc := "([BI)B" } : Jvm.MethodName) jdk_52_method_15_code (2 : Nat) (Option.some Jvm.ClassFile.FieldType.byte)).before args0 about1 = true := code_word (m := ⟨18, 1⟩) (meth := k18m1) (c := k18c1) (by decide +kernel) rfl rfl rfl (by decide +kernel)
def codes1 : List Jvm.Cond := [Jvm.Cond.code x code maxLocals ret, Jvm.Cond.code ({ cls := "com/example/ledgerline/ledgerline/KeyToStringPinLaw", name := "mk", desc := "(II)Ljava/lang/String;" } : Jvm.MethodName) method_2_code (3 : Nat) (Option.some (Jvm.ClassFile.FieldType.object "java/lang/String")), Jvm.Cond.code ({ cls := "java/lang/String", name := "valueOf", desc := "(C)Ljava/lang/String;" } : Jvm.MethodName) jdk_42_method_139_code (1 : Nat) (Option.some (Jvm.ClassFile.FieldType.object "java/lang/String")), Jvm.Cond.code ({ cls := "java/lang/StringLatin1", name := "canEncode", desc := "(C)Z" } : Jvm.MethodName) jdk_43_method_3_code (1 : Nat) (Option.some Jvm.ClassFile.FieldType.boolean), Jvm.Cond.code ({ cls := "java/lang/StringLatin1", name := "toBytes", desc := "(C)[B" } : Jvm.MethodName) jdk_43_method_46_code (1 : Nat) (Option.some (Jvm.ClassFile.FieldType.array Jvm.ClassFile.FieldType.byte)), Jvm.Cond.code ({ cls := "java/lang/String", name := "<init>", desc := "([BB)V" } : Jvm.MethodName) jdk_42_method_151_code (3 : Nat) (Option.none : Option Jvm.ClassFile.FieldType), Jvm.Cond.code ({ cls := "java/lang/Object", name := "<init>", desc := "()V" } : Jvm.MethodName) object_method_1_code (1 : Nat) (Option.none : Option Jvm.ClassFile.FieldType), Jvm.Cond.code ({ cls := "java/lang/String", name := "<init>", desc := "([C)V" } : Jvm.MethodName) jdk_42_method_3_code (2 : Nat) (Option.none : Option Jvm.ClassFile.FieldType), Jvm.Cond.code ({ cls := "java/lang/String", name := "<init>", desc := "([CIILjava/lang/Void;)V" } : Jvm.MethodName) jdk_42_method_149_code (6 : Nat) (Option.none : Option Jvm.ClassFile.FieldType), Jvm.Cond.code ({ cls := "com/example/ledgerline/ledgerline/Settlement$Key", name := "<init>", desc := "(Ljava/lang/String;Ljava/lang/String;Ljava/lang/String;)V" } : Jvm.MethodName) prog_59_method_1_code (4 : Nat) (Option.none : Option Jvm.ClassFile.FieldType), Jvm.Cond.code ({ cls := "java/lang/Record", name := "<init>", desc := "()V" } : Jvm.MethodName) jdk_30_method_1_code (1 : Nat) (Option.none : Option Jvm.ClassFile.FieldType), Jvm.Cond.code ({ cls := "com/example/ledgerline/ledgerline/Settlement$Key", name := "toString", desc := "()Ljava/lang/String;" } : Jvm.MethodName) prog_59_method_2_code (1 : Nat) (Option.some (Jvm.ClassFile.FieldType.object "java/lang/String")), Jvm.Cond.code ({ cls := "java/lang/StringBuilder", name := "<init>", desc := "()V" } : Jvm.MethodName) jdk_67_method_1_code (1 : Nat) (Option.none : Option Jvm.ClassFile.FieldType), Jvm.Cond.code ({ cls := "java/lang/AbstractStringBuilder", name := "<init>", desc := "(I)V" } : Jvm.MethodName) jdk_68_method_2_code (2 : Nat) (Option.none : Option Jvm.ClassFile.FieldType), Jvm.Cond.code ({ cls := "java/lang/StringBuilder", name := "append", desc := "(Ljava/lang/String;)Ljava/lang/StringBuilder;" } : Jvm.MethodName) jdk_67_method_7_code (2 : Nat) (Option.some (Jvm.ClassFile.FieldType.object "java/lang/StringBuilder")), Jvm.Cond.code ({ cls := "java/lang/AbstractStringBuilder", name := "append", desc := "(Ljava/lang/String;)Ljava/lang/AbstractStringBuilder;" } : Jvm.MethodName) jdk_68_method_22_code (3 : Nat) (Option.some (Jvm.ClassFile.FieldType.object "java/lang/AbstractStringBuilder")), Jvm.Cond.code ({ cls := "java/lang/String", name := "length", desc := "()I" } : Jvm.MethodName) jdk_42_method_54_code (1 : Nat) (Option.some Jvm.ClassFile.FieldType.int), Jvm.Cond.code ({ cls := "java/lang/String", name := "coder", desc := "()B" } : Jvm.MethodName) jdk_42_method_152_code (1 : Nat) (Option.some Jvm.ClassFile.FieldType.byte), Jvm.Cond.code ({ cls := "java/lang/AbstractStringBuilder", name := "ensureCapacityInternal", desc := "(I)V" } : Jvm.MethodName) jdk_68_method_9_code (3 : Nat) (Option.none : Option Jvm.ClassFile.FieldType), Jvm.Cond.code ({ cls := "java/lang/AbstractStringBuilder", name := "putStringAt", desc := "(ILjava/lang/String;)V" } : Jvm.MethodName) jdk_68_method_73_code (3 : Nat) (Option.none : Option Jvm.ClassFile.FieldType), Jvm.Cond.code ({ cls := "java/lang/AbstractStringBuilder", name := "inflateIfNeededFor", desc := "(Ljava/lang/String;)V" } : Jvm.MethodName) jdk_68_method_71_code (2 : Nat) (Option.none : Option Jvm.ClassFile.FieldType), Jvm.Cond.code ({ cls := "java/lang/String", name := "getBytes", desc := "([BIB)V" } : Jvm.MethodName) jdk_42_method_147_code (4 : Nat) (Option.none : Option Jvm.ClassFile.FieldType), Jvm.Cond.code ({ cls := "java/lang/StringBuilder", name := "toString", desc := "()Ljava/lang/String;" } : Jvm.MethodName) jdk_67_method_42_code (1 : Nat) (Option.some (Jvm.ClassFile.FieldType.object "java/lang/String")), Jvm.Cond.code ({ cls := "java/lang/String", name := "<init>", desc := "(Ljava/lang/StringBuilder;)V" } : Jvm.MethodName) jdk_42_method_53_code (2 : Nat) (Option.none : Option Jvm.ClassFile.FieldType), Jvm.Cond.code ({ cls := "java/lang/String", name := "<init>", desc := "(Ljava/lang/AbstractStringBuilder;Ljava/lang/Void;)V" } : Jvm.MethodName) jdk_42_method_150_code (5 : Nat) (Option.none : Option Jvm.ClassFile.FieldType), Jvm.Cond.code ({ cls := "java/lang/AbstractStringBuilder", name := "getValue", desc := "()[B" } : Jvm.MethodName) jdk_68_method_64_code (1 : Nat) (Option.some (Jvm.ClassFile.FieldType.array Jvm.ClassFile.FieldType.byte)), Jvm.Cond.code ({ cls := "java/lang/StringBuilder", name := "length", desc := "()I" } : Jvm.MethodName) jdk_67_method_93_code (1 : Nat) (Option.some Jvm.ClassFile.FieldType.int), Jvm.Cond.code ({ cls := "java/lang/AbstractStringBuilder", name := "length", desc := "()I" } : Jvm.MethodName) jdk_68_method_6_code (1 : Nat) (Option.some Jvm.ClassFile.FieldType.int), Jvm.Cond.code ({ cls := "java/lang/AbstractStringBuilder", name := "isLatin1", desc := "()Z" } : Jvm.MethodName) jdk_68_method_68_code (1 : Nat) (Option.some Jvm.ClassFile.FieldType.boolean), Jvm.Cond.code ({ cls := "java/util/Arrays", name := "copyOfRange", desc := "([BII)[B" } : Jvm.MethodName) jdk_65_method_132_code (3 : Nat) (Option.some (Jvm.ClassFile.FieldType.array Jvm.ClassFile.FieldType.byte)), Jvm.Cond.code ({ cls := "java/util/Arrays", name := "copyOfRangeByte", desc := "([BII)[B" } : Jvm.MethodName) jdk_65_method_133_code (5 : Nat) (Option.some (Jvm.ClassFile.FieldType.array Jvm.ClassFile.FieldType.byte)), Jvm.Cond.code ({ cls := "java/util/Arrays", name := "checkLength", desc := "(II)V" } : Jvm.MethodName) jdk_65_method_131_code (2 : Nat) (Option.none : Option Jvm.ClassFile.FieldType), Jvm.Cond.code ({ cls := "java/lang/Math", name := "min", desc := "(II)I" } : Jvm.MethodName) jdk_29_method_69_code (2 : Nat) (Option.some Jvm.ClassFile.FieldType.int), Jvm.Cond.code ({ cls := "com/example/ledgerline/ledgerline/KeyToStringPinLaw", name := "ok", desc := "(Ljava/lang/String;Ljava/lang/String;Ljava/lang/String;Ljava/lang/String;I)Z" } : Jvm.MethodName) method_4_code (5 : Nat) (Option.some Jvm.ClassFile.FieldType.boolean), Jvm.Cond.code ({ cls := "java/lang/String", name := "charAt", desc := "(I)C" } : Jvm.MethodName) jdk_42_method_56_code (2 : Nat) (Option.some Jvm.ClassFile.FieldType.char), Jvm.Cond.code ({ cls := "java/lang/String", name := "isLatin1", desc := "()Z" } : Jvm.MethodName) jdk_42_method_154_code (1 : Nat) (Option.some Jvm.ClassFile.FieldType.boolean), Jvm.Cond.code ({ cls := "java/lang/StringLatin1", name := "charAt", desc := "([BI)C" } : Jvm.MethodName) jdk_43_method_2_code (2 : Nat) (Option.some Jvm.ClassFile.FieldType.char), Jvm.Cond.code ({ cls := "java/lang/String", name := "checkIndex", desc := "(II)V" } : Jvm.MethodName) jdk_42_method_155_code (2 : Nat) (Option.none : Option Jvm.ClassFile.FieldType), Jvm.Cond.code ({ cls := "jdk/internal/util/Preconditions", name := "checkIndex", desc := "(IILjava/util/function/BiFunction;)I" } : Jvm.MethodName) jdk_41_method_11_code (3 : Nat) (Option.some Jvm.ClassFile.FieldType.int), Jvm.Cond.code ({ cls := "com/example/ledgerline/ledgerline/KeyToStringPinLaw", name := "at", desc := "(Ljava/lang/String;Ljava/lang/String;Ljava/lang/String;I)C" } : Jvm.MethodName) method_3_code (5 : Nat) (Option.some Jvm.ClassFile.FieldType.char), Jvm.Cond.code ({ cls := "java/lang/StringUTF16", name := "compress", desc := "([CII)[B" } : Jvm.MethodName) jdk_52_method_16_code (6 : Nat) (Option.some (Jvm.ClassFile.FieldType.array Jvm.ClassFile.FieldType.byte)), Jvm.Cond.code ({ cls := "java/lang/StringUTF16", name := "compress", desc := "([CI[BII)I" } : Jvm.MethodName) jdk_52_method_21_code (7 : Nat) (Option.some Jvm.ClassFile.FieldType.int), Jvm.Cond.code ({ cls := "java/lang/StringUTF16", name := "coderFromArrayLen", desc := "([BI)B" } : Jvm.MethodName) jdk_52_method_15_code (2 : Nat) (Option.some Jvm.ClassFile.FieldType.byte)]
set_option maxRecDepth 65536 in
theorem codes_eq : words1.filter isCode = codes1 := rfl
theorem w_codes : ∀ c ∈ words1.filter isCode, c.before args0 about1 = true := by
  rw [codes_eq]
  intro c hc
  simp only [codes1, List.mem_cons, List.not_mem_nil, or_false] at hc
  rcases hc with rfl | rfl | rfl | rfl | rfl | rfl | rfl | rfl | rfl | rfl | rfl | rfl | rfl | rfl | rfl | rfl | rfl | rfl | rfl | rfl | rfl | rfl | rfl | rfl | rfl | rfl | rfl | rfl | rfl | rfl | rfl | rfl | rfl | rfl | rfl | rfl | rfl | rfl | rfl | rfl | rfl | rfl | rfl
  · exact w_c0
  · exact w_c1
  · exact w_c2
  · exact w_c3
  · exact w_c4
  · exact w_c5
  · exact w_c6
  · exact w_c7
  · exact w_c8
  · exact w_c9
  · exact w_c10
  · exact w_c11
  · exact w_c12
  · exact w_c13
  · exact w_c14
  · exact w_c15
  · exact w_c16
  · exact w_c17
  · exact w_c18
  · exact w_c19
  · exact w_c20
  · exact w_c21
  · exact w_c22
  · exact w_c23
  · exact w_c24
  · exact w_c25
  · exact w_c26
  · exact w_c27
  · exact w_c28
  · exact w_c29
  · exact w_c30
  · exact w_c31
  · exact w_c32
  · exact w_c33
  · exact w_c34
  · exact w_c35
  · exact w_c36
  · exact w_c37
  · exact w_c38
  · exact w_c39
  · exact w_c40
  · exact w_c41
  · exact w_c42
set_option maxRecDepth 65536 in
theorem w_t1 : (words1.take 24).all (fun c => isCode c || c.before args0 about1) = true := by decide +kernel
set_option maxRecDepth 65536 in
theorem w_t2 : ((words1.drop 24).take 24).all (fun c => isCode c || c.before args0 about1) = true := by decide +kernel
set_option maxRecDepth 65536 in
theorem w_t3 : (((words1.drop 24).drop 24).take 24).all (fun c => isCode c || c.before args0 about1) = true := by decide +kernel
set_option maxRecDepth 65536 in
theorem w_t4 : ((((words1.drop 24).drop 24).drop 24).take 24).all (fun c => isCode c || c.before args0 about1) = true := by decide +kernel
set_option maxRecDepth 65536 in
theorem w_t5 : (((((words1.drop 24).drop 24).drop 24).drop 24).take 24).all (fun c => isCode c || c.before args0 about1) = true := by decide +kernel
set_option maxRecDepth 65536 in
theorem w_t6 : ((((((words1.drop 24).drop 24).drop 24).drop 24).drop 24).take 24).all (fun c => isCode c || c.before args0 about1) = true := by decide +kernel
set_option maxRecDepth 65536 in
theorem w_t7 : (((((((words1.drop 24).drop 24).drop 24).drop 24).drop 24).drop 24).take 24).all (fun c => isCode c || c.before args0 about1) = true := by decide +kernel
set_option maxRecDepth 65536 in
theorem w_t8 : ((((((((words1.drop 24).drop 24).drop 24).drop 24).drop 24).drop 24).drop 24).take 24).all (fun c => isCode c || c.before args0 about1) = true := by decide +kernel
set_option maxRecDepth 65536 in
theorem w_t9 : ((((((((words1.drop 24).drop 24).drop 24).drop 24).drop 24).drop 24).drop 24).drop 24).all (fun c => isCode c || c.before args0 about1) = true := by decide +kernel
theorem w_tables : (allAtoms (Jvm.Cond.code x code maxLocals ret :: tables_1)).before args0 about1 = true := by
  rw [allAtoms_all]
  show words1.all (fun c => c.before args0 about1) = true
  refine all_split ?_ w_codes
  rw [← List.take_append_drop 24 words1, List.all_append, w_t1, ← List.take_append_drop 24 (words1.drop 24), List.all_append, w_t2, ← List.take_append_drop 24 ((words1.drop 24).drop 24), List.all_append, w_t3, ← List.take_append_drop 24 (((words1.drop 24).drop 24).drop 24), List.all_append, w_t4, ← List.take_append_drop 24 ((((words1.drop 24).drop 24).drop 24).drop 24), List.all_append, w_t5, ← List.take_append_drop 24 (((((words1.drop 24).drop 24).drop 24).drop 24).drop 24), List.all_append, w_t6, ← List.take_append_drop 24 ((((((words1.drop 24).drop 24).drop 24).drop 24).drop 24).drop 24), List.all_append, w_t7, ← List.take_append_drop 24 (((((((words1.drop 24).drop 24).drop 24).drop 24).drop 24).drop 24).drop 24), List.all_append, w_t8, w_t9]
  rfl
set_option maxRecDepth 65536 in
theorem w_rest : rest_1_c.before args0 about1 = true := by decide +kernel
set_option maxRecDepth 65536 in
theorem w_case : (Jvm.Cond.and given_1 narrow_1).before args0 about1 = true := by decide +kernel
set_option maxRecDepth 65536 in
theorem w_consts : constsHeld consts_1 about1 := Jvm.Lit.constsHeldB_iff.mp (by decide +kernel)
theorem w_applies : (headSpec (Jvm.Cond.code x code maxLocals ret :: tables_1) room_1).applies x e0.platform about1 = true :=
  (Spec.applies_iff w_frames).mpr ⟨w_running, w_runnable, w_alone, w_named, w_hears, w_ripe, w_room, w_tables⟩
theorem atStart : AtStart classFile x code maxLocals ret World_1 tables_1 room_1 Calls_1 rest_1 Pre_1 launch0 p0 e0 about1 theMethod args0 below0 :=
  ⟨lists_1, trivial, launch0.admits_env _ _ _, launch0.least_env, fairChoices_fair.cas, fairChoices_fair.clock, w_frames, w_args, w_heap, w_applies, ⟨w_consts, trivial⟩, w_rest, w_case⟩
end start1
theorem witness_1 : WitnessClaimed_1 := ⟨start1.p0, start1.e0, start1.about1, start1.theMethod, start1.args0, start1.below0, start1.atStart⟩
end Jvm.Pilot.@@N@@
