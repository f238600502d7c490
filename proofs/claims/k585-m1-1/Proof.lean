import JvmDerived
import JvmDerived.Pilot.@@N@@Statement
import JvmDerived.Pilot.@@N@@Code
set_option linter.unusedVariables false
set_option linter.unusedSimpArgs false
namespace Jvm.RoadKit
open Sem ClassFile Op Lib Jvm.Stand Jvm.Free Jvm.LawKit
section New
variable {p : Program} {l : Launch} {e : Env} {R : Room} {s : State} {m : MethodId} {args : Array Value} {below : List Frame} {meth : Method} {c : Code} {T : State} {locs : List Loc} {cells slots : Nat}
theorem retI (X : Stand p l e R s m args below meth c T locs cells slots) (hx : p.tables.exec = Jvm.exec) {pc : Nat} {Ls : Array Slot} {z : Int32} {rest : List Value} (hret : meth.sig.returnType = some .int) (hd : decode c.code pc = .ok (.ireturn, 1)) {fs : List Frame}
    (hl : ∀ (f : JFrame) (acts : List Action), f.method = m → f.locked = none → f.entered = [] → (doReturn e (T.setTop f) acts (some (.int z))).1 = T.setFrames fs) : Steps p.tables e below (T.setTop (mkF m pc Ls (.int z :: rest))) (T.setFrames fs) := by
  have hm' : T.vm.method? m = some meth := X.method'
  have hn : narrow .int (.int z) = .int z := rfl
  show Steps p.tables e below (T.setTop { method := m, pc := pc, locals := Ls, stack := _ :: rest, locked := none }) _
  jvm_step X.here [X.here.top, hx, hd, hm', hret, hn]
  first | (intro acts; rw [hl _ acts rfl rfl rfl]) | rw [hl _ _ rfl rfl rfl]
  exact Steps.refl _
end New
end Jvm.RoadKit
namespace Jvm.Pilot.@@N@@
open Jvm Jvm.ClassFile Sem Op Lib Jvm.Free Jvm.Stand Jvm.LawKit Jvm.RoadKit Bundle Jvm.Pilot.@@N@@.Jvm.D
theorem own_refc {v : Value} (h : v.isRef = true) : v = .null ∨ ∃ a, v = .ref a := by cases v <;> simp_all [Value.isRef]
theorem own_narR {t : FieldType} {v : Value} (h : v.isRef = true) : narrow t v = v := by rcases own_refc h with rfl | ⟨_, rfl⟩ <;> cases t <;> rfl
theorem own_le {Z : State} {n0 : Nat} {h : Heap} (O : Old Z n0 h) : n0 ≤ h.size := O.1 ▸ O.2.1
theorem own_fitR {t : FieldType} {v : Value} (ht : refKind t = true) (h : v.isRef = true) : fits t v = true := by rcases own_refc h with rfl | ⟨_, rfl⟩ <;> cases t <;> simp_all [refKind, fits]
theorem own_root {Z : State} {a0 : Array Value} {O K : String} {n : Nat} (w : (Jvm.Cond.noSuperclass O).before a0 Z = true) (wk : (Jvm.Cond.instantiable K n).before a0 Z = true) (hn : O ≠ K) : NS Z O K := by
  obtain ⟨c, k, h1, h2, h3, -, -⟩ := Cond.noSuperclass_spec w
  obtain ⟨t, k2, g1, -⟩ := Cond.instantiable_spec wk
  have ne := ids_ne h1 g1 hn
  refine ⟨c, t, h1, g1, fun fuel => ?_⟩
  cases fuel with
  | zero => rfl
  | succ f => simp [Vm.isSubclassAux, ne, h2, h3]
theorem own_no {Z : State} {a0 : Array Value} {C S K : String} {n : Nat} (w : (Jvm.Cond.superclass C S).before a0 Z = true) (wk : (Jvm.Cond.instantiable K n).before a0 Z = true) (ns : NS Z C K) (hn : C ≠ K) : ∃ c t, Z.vm.findClass C = some c ∧ Z.vm.findClass K = some t ∧ Z.vm.assignable c t = false := by
  obtain ⟨c, t, h0, g0, n3⟩ := ns
  obtain ⟨p, k, kp, h1, h2, h3, h4, h5, -, h7⟩ := Cond.superclass_spec h0 w
  obtain ⟨q, k', g1, g2, g3, g4, -⟩ := Cond.instantiable_spec wk
  cases g0.symm.trans g1
  have ne := ids_ne h0 g0 hn
  have g5 : k'.isInterface = false := by cases hi : k'.isInterface <;> simp_all
  refine ⟨c, t, h0, g0, ?_⟩
  show Z.vm.assignableAux (255 + 1) c t = false
  simp [Vm.assignableAux, ne, h2, g2, h5, g3, g5, Vm.isSubclass, n3]
theorem own_b8 (x : Int32) : x.toInt8.toInt32.toInt8.toInt32 = x.toInt8.toInt32 := by simp
theorem own_ti {k q : Int32} {n : Int} (e : q.toInt = n) (h : n = k.toInt) : k = q := Int32.toInt_inj.mp (h.symm.trans e.symm)
theorem ne_arv {Z : State} {h : Heap} {a b : Addr} {C : String} {a0 : Array Value} {k : Nat} {kc : ClassId} {ty : FieldType} {z : Int32} {vs : List Value} {dv : Value} (F : Exa Z h a C) (wi : (Jvm.Cond.instantiable C k).before a0 Z = true) (G : Arv Z h b kc ty z vs dv) : a ≠ b := by obtain ⟨c, A, -⟩ := G; exact ne_arr F wi A
theorem own_eqi {t : Term} {n : Int32} {args : Array Value} {s : State} (h : (Jvm.Cond.eq t (.int n)).value args s none s [] = some true) : t.eval args s none [] s = some (.int n) := by
  simp only [Jvm.Cond.value] at h
  have hn : (Term.int n).eval args s none [] s = some (.int n) := rfl
  rw [hn] at h
  cases hv : t.eval args s none [] s with
  | none => simp [hv] at h
  | some x => cases x <;> simp [hv] at h ⊢; exact h
theorem own_255 (x : Int32) : ¬ ((255 : Int32) < (x &&& (255 : Int32))) := by
  rw [Int32.lt_iff_toInt_lt]
  have := c_and x 255 (by decide)
  have e : (255 : Int32).toInt = 255 := by decide
  rw [e] at this ⊢; omega
theorem own_idx {i : Int32} (h1 : ¬ i < (-128 : Int32)) (h2 : ¬ (127 : Int32) < i) : ¬ (i + (128 : Int32) < 0) ∧ i + (128 : Int32) < (256 : Int32) := by
  simp only [Int32.lt_iff_toInt_lt] at h1 h2 ⊢
  have a := c_iadd i 128
  have b := rng32 (i + 128)
  have e1 : (-128 : Int32).toInt = -128 := by decide
  have e2 : (127 : Int32).toInt = 127 := by decide
  have e3 : (128 : Int32).toInt = 128 := by decide
  have e4 : (256 : Int32).toInt = 256 := by decide
  have e5 : (0 : Int32).toInt = 0 := by decide
  rw [e1] at h1; rw [e2] at h2; rw [e3] at a; rw [e4, e5]
  omega
theorem own_mask (x : Int32) : ¬ ((255 : Int32) < ((x &&& (255 : Int32)).toUInt32.toUInt16.toUInt32.toInt32)) := by
  rw [i2c_mask, Int32.lt_iff_toInt_lt]
  have := c_and x 255 (by decide)
  have e : (255 : Int32).toInt = 255 := by decide
  rw [e] at this ⊢; omega
theorem d2_0 : decode jdk_30_method_1_code 0 = .ok (.aload_n 0, 1) := by decide +kernel
theorem d2_1 : decode jdk_30_method_1_code 1 = .ok (.invokespecial 1, 3) := by decide +kernel
theorem d2_4 : decode jdk_30_method_1_code 4 = .ok (.return_, 1) := by decide +kernel
theorem pn_java_lang_Record : plainName "java/lang/Record" = true := by first | (simp [plainName, overriddenIn]; done) | decide +kernel
theorem ef_rm2 (m : MethodId) (a0 : Addr) : entryFrame m #[(.ref a0)] 1 = mkF m 0 #[.val (.ref a0)] [] := by first | (simp [entryFrame, mkF, argsToLocals, Value.category]; done) | rfl
def Q_rm2 (Z : State) (a0 : Addr) (h0 : Heap) (n0 : Nat) (v : Option Value) (h : Heap) (L : List Loc) : Prop := v = none ∧ Fr n0 L ∧ h = h0
set_option maxRecDepth 65536 in
set_option maxHeartbeats 40000000 in
theorem rm2 (l : Launch) (Z : State) (av0 : Array Value) (hw : ∀ d ∈ tables_1, d.before av0 Z = true) (ws : List Jvm.Cond) (a0 : Addr) (h0 : Heap) (n0 : Nat) (Z0 : n0 ≤ h0.size) :
    MetFree l (⟨"java/lang/Record", "<init>", "()V"⟩ : MethodName) (head1 (Jvm.Cond.code (⟨"java/lang/Record", "<init>", "()V"⟩ : MethodName) jdk_30_method_1_code 1 none :: ws) ({ frames := 1, cells := 0, slots := 0, locals := 12 } : Room)) (fun a U => a = #[(.ref a0)] ∧ Z.Warmed39 U.vm ∧ U.heap = h0) (fun _ _ _ _ _ => True) (fun _ U o U' => ∃ v L, o = .returned v ∧ Q_rm2 Z a0 h0 n0 v U'.heap L ∧ FrameEnd U o U' L ({ frames := 1, cells := 0, slots := 0, locals := 12 } : Room).cells ({ frames := 1, cells := 0, slots := 0, locals := 12 } : Room).slots) := by
  refine MetFree.of_bodySF (plainFor_of_name pn_java_lang_Record) hisR ?_
  intro p e s m args below meth c s₁ Bd hml0 hP hK
  obtain ⟨rfl, hZ, hh⟩ := hP
  have hx := Bd.exec
  have hby := Bd.bytes
  have hml : c.maxLocals = 1 := hml0
  have hown : s.vm.findClass "java/lang/Record" = some m.cls := findClass_of_methodNamed Bd.named
  have hnm := (name_of_methodNamed Bd.named Bd.method).1
  have X0 : Stand p l e ({ frames := 1, cells := 0, slots := 0, locals := 12 } : Room) s m #[(.ref a0)] below meth c s₁ [] 0 0 := Stand.of_body Bd
  have e0 : s₁.heap = h0 := by rw [← hh, Bd.state]; rfl
  have N0 := Fr.nil n0
  have pre0 : ∀ tz_, Steps p.tables e below (s₁.setTop (mkF m 0 #[.val (.ref a0)] [])) tz_ → Steps p.tables e below (s₁.setTop (entryFrame m #[(.ref a0)] 1)) tz_ := fun tz_ kz_ => castTop (ef_rm2 m a0) kz_
  obtain ⟨T31, X31, e31, st31⟩ := initO X0 hx hZ hown (hw _ (List.mem_of_getElem? (i := 11) rfl)) (hw _ (List.mem_of_getElem? (i := 12) rfl)) (hw _ (List.mem_of_getElem? (i := 13) rfl)) e0 (g := (mkF m 1 #[.val (.ref a0)] [(.ref a0)])) rfl (by rw [hml]; rfl) rfl (hb hby d2_1) (by decide) (W := 0) (by show 2 * 0 + _ ≤ _; exact Nat.le_of_eq rfl) (by decide)
  obtain ⟨fs, hrL, hrun, hended, hW, hsame⟩ := X31.leave (v := none) (fun _ => rfl)
  refine ⟨_, _, pre0 _ ?_, hrun, hended, _, _, rfl, ?_, ⟨_, rfl⟩, hW, hsame.mono (by decide) (by decide)⟩
  · show Steps p.tables e below (s₁.setTop (mkF m 0 #[.val (.ref a0)] [])) _
    refine XS.aloadN X0.here hx rfl (hb hby d2_0) rfl rfl ?_
    show Steps p.tables e below (s₁.setTop (mkF m 1 #[.val (.ref a0)] [(.ref a0)])) _
    refine st31 _ ?_
    show Steps p.tables e below (T31.setTop (mkF m 4 #[.val (.ref a0)] [])) _
    exact X31.returnOut hx Bd.returns (hb hby d2_4) hrL
  · show Q_rm2 _ _ _ _ _  T31.heap _
    rw [e31]
    exact ⟨rfl, N0, rfl⟩
theorem d12_0 : decode jdk_18_method_1_code 0 = .ok (.aload_n 0, 1) := by decide +kernel
theorem d12_1 : decode jdk_18_method_1_code 1 = .ok (.invokespecial 1, 3) := by decide +kernel
theorem d12_4 : decode jdk_18_method_1_code 4 = .ok (.return_, 1) := by decide +kernel
theorem pn_java_lang_Number : plainName "java/lang/Number" = true := by first | (simp [plainName, overriddenIn]; done) | decide +kernel
theorem ef_rm12 (m : MethodId) (a0 : Addr) : entryFrame m #[(.ref a0)] 1 = mkF m 0 #[.val (.ref a0)] [] := by first | (simp [entryFrame, mkF, argsToLocals, Value.category]; done) | rfl
def Q_rm12 (Z : State) (a0 : Addr) (h0 : Heap) (n0 : Nat) (v : Option Value) (h : Heap) (L : List Loc) : Prop := v = none ∧ Fr n0 L ∧ h = h0
set_option maxRecDepth 65536 in
set_option maxHeartbeats 40000000 in
theorem rm12 (l : Launch) (Z : State) (av0 : Array Value) (hw : ∀ d ∈ tables_1, d.before av0 Z = true) (ws : List Jvm.Cond) (a0 : Addr) (h0 : Heap) (n0 : Nat) (Z0 : n0 ≤ h0.size) :
    MetFree l (⟨"java/lang/Number", "<init>", "()V"⟩ : MethodName) (head1 (Jvm.Cond.code (⟨"java/lang/Number", "<init>", "()V"⟩ : MethodName) jdk_18_method_1_code 1 none :: ws) ({ frames := 1, cells := 0, slots := 0, locals := 12 } : Room)) (fun a U => a = #[(.ref a0)] ∧ Z.Warmed39 U.vm ∧ U.heap = h0) (fun _ _ _ _ _ => True) (fun _ U o U' => ∃ v L, o = .returned v ∧ Q_rm12 Z a0 h0 n0 v U'.heap L ∧ FrameEnd U o U' L ({ frames := 1, cells := 0, slots := 0, locals := 12 } : Room).cells ({ frames := 1, cells := 0, slots := 0, locals := 12 } : Room).slots) := by
  refine MetFree.of_bodySF (plainFor_of_name pn_java_lang_Number) hisR ?_
  intro p e s m args below meth c s₁ Bd hml0 hP hK
  obtain ⟨rfl, hZ, hh⟩ := hP
  have hx := Bd.exec
  have hby := Bd.bytes
  have hml : c.maxLocals = 1 := hml0
  have hown : s.vm.findClass "java/lang/Number" = some m.cls := findClass_of_methodNamed Bd.named
  have hnm := (name_of_methodNamed Bd.named Bd.method).1
  have X0 : Stand p l e ({ frames := 1, cells := 0, slots := 0, locals := 12 } : Room) s m #[(.ref a0)] below meth c s₁ [] 0 0 := Stand.of_body Bd
  have e0 : s₁.heap = h0 := by rw [← hh, Bd.state]; rfl
  have N0 := Fr.nil n0
  have pre0 : ∀ tz_, Steps p.tables e below (s₁.setTop (mkF m 0 #[.val (.ref a0)] [])) tz_ → Steps p.tables e below (s₁.setTop (entryFrame m #[(.ref a0)] 1)) tz_ := fun tz_ kz_ => castTop (ef_rm12 m a0) kz_
  obtain ⟨T31, X31, e31, st31⟩ := initO X0 hx hZ hown (hw _ (List.mem_of_getElem? (i := 81) rfl)) (hw _ (List.mem_of_getElem? (i := 12) rfl)) (hw _ (List.mem_of_getElem? (i := 13) rfl)) e0 (g := (mkF m 1 #[.val (.ref a0)] [(.ref a0)])) rfl (by rw [hml]; rfl) rfl (hb hby d12_1) (by decide) (W := 0) (by show 2 * 0 + _ ≤ _; exact Nat.le_of_eq rfl) (by decide)
  obtain ⟨fs, hrL, hrun, hended, hW, hsame⟩ := X31.leave (v := none) (fun _ => rfl)
  refine ⟨_, _, pre0 _ ?_, hrun, hended, _, _, rfl, ?_, ⟨_, rfl⟩, hW, hsame.mono (by decide) (by decide)⟩
  · show Steps p.tables e below (s₁.setTop (mkF m 0 #[.val (.ref a0)] [])) _
    refine XS.aloadN X0.here hx rfl (hb hby d12_0) rfl rfl ?_
    show Steps p.tables e below (s₁.setTop (mkF m 1 #[.val (.ref a0)] [(.ref a0)])) _
    refine st31 _ ?_
    show Steps p.tables e below (T31.setTop (mkF m 4 #[.val (.ref a0)] [])) _
    exact X31.returnOut hx Bd.returns (hb hby d12_4) hrL
  · show Q_rm12 _ _ _ _ _  T31.heap _
    rw [e31]
    exact ⟨rfl, N0, rfl⟩
theorem d1_0 : decode prog_28_method_1_code 0 = .ok (.aload_n 0, 1) := by decide +kernel
theorem d1_1 : decode prog_28_method_1_code 1 = .ok (.invokespecial 1, 3) := by decide +kernel
theorem pd_1 : parseMethodDescriptor "()V" = some ⟨[], none⟩ := by decide +kernel
theorem d1_4 : decode prog_28_method_1_code 4 = .ok (.aload_n 0, 1) := by decide +kernel
theorem d1_5 : decode prog_28_method_1_code 5 = .ok (.iload_n 1, 1) := by decide +kernel
theorem d1_6 : decode prog_28_method_1_code 6 = .ok (.putfield 7, 3) := by decide +kernel
theorem d1_9 : decode prog_28_method_1_code 9 = .ok (.return_, 1) := by decide +kernel
theorem pn_com_example_locktop_locktop_snapshot_Blocker_Backend : plainName "com/example/locktop/locktop/snapshot/Blocker$Backend" = true := by first | (simp [plainName, overriddenIn]; done) | decide +kernel
theorem ef_rm1 (m : MethodId) (a0 : Addr) (i1 : Int32) : entryFrame m #[(.ref a0), (.int i1)] 2 = mkF m 0 #[.val (.ref a0), .val (.int i1)] [] := by first | (simp [entryFrame, mkF, argsToLocals, Value.category]; done) | rfl
def Q_rm1 (Z : State) (a0 : Addr) (i1 : Int32) (h0 : Heap) (n0 : Nat) (v : Option Value) (h : Heap) (L : List Loc) : Prop := v = none ∧ Fr n0 L ∧ Keep h0 h [a0] ∧ Exa Z h a0 "com/example/locktop/locktop/snapshot/Blocker$Backend" ∧ Fld Z h a0 "com/example/locktop/locktop/snapshot/Blocker$Backend" "pid" "I" (.int i1)
set_option maxRecDepth 65536 in
set_option maxHeartbeats 40000000 in
theorem rm1 (l : Launch) (Z : State) (av0 : Array Value) (hw : ∀ d ∈ tables_1, d.before av0 Z = true) (ws : List Jvm.Cond) (a0 : Addr) (i1 : Int32) (h0 : Heap) (n0 : Nat) (Z0 : n0 ≤ h0.size) (p0_E : Exa Z h0 a0 "com/example/locktop/locktop/snapshot/Blocker$Backend") (p1_F : Fld Z h0 a0 "com/example/locktop/locktop/snapshot/Blocker$Backend" "pid" "I" (.int 0)) (p2_g : n0 ≤ a0) :
    MetFree l (⟨"com/example/locktop/locktop/snapshot/Blocker$Backend", "<init>", "(I)V"⟩ : MethodName) (head1 (Jvm.Cond.code (⟨"com/example/locktop/locktop/snapshot/Blocker$Backend", "<init>", "(I)V"⟩ : MethodName) prog_28_method_1_code 2 none :: ws) ({ frames := 2, cells := 0, slots := 0, locals := 24 } : Room)) (fun a U => a = #[(.ref a0), (.int i1)] ∧ Z.Warmed39 U.vm ∧ U.heap = h0) (fun _ _ _ _ _ => True) (fun _ U o U' => ∃ v L, o = .returned v ∧ Q_rm1 Z a0 i1 h0 n0 v U'.heap L ∧ FrameEnd U o U' L ({ frames := 2, cells := 0, slots := 0, locals := 24 } : Room).cells ({ frames := 2, cells := 0, slots := 0, locals := 24 } : Room).slots) := by
  refine MetFree.of_bodySF (plainFor_of_name pn_com_example_locktop_locktop_snapshot_Blocker_Backend) hisR ?_
  intro p e s m args below meth c s₁ Bd hml0 hP hK
  obtain ⟨rfl, hZ, hh⟩ := hP
  have hx := Bd.exec
  have hby := Bd.bytes
  have hml : c.maxLocals = 2 := hml0
  have hown : s.vm.findClass "com/example/locktop/locktop/snapshot/Blocker$Backend" = some m.cls := findClass_of_methodNamed Bd.named
  have hnm := (name_of_methodNamed Bd.named Bd.method).1
  have X0 : Stand p l e ({ frames := 2, cells := 0, slots := 0, locals := 24 } : Room) s m #[(.ref a0), (.int i1)] below meth c s₁ [] 0 0 := Stand.of_body Bd
  have e0 : s₁.heap = h0 := by rw [← hh, Bd.state]; rfl
  have N0 := Fr.nil n0
  have pre0 : ∀ tz_, Steps p.tables e below (s₁.setTop (mkF m 0 #[.val (.ref a0), .val (.int i1)] [])) tz_ → Steps p.tables e below (s₁.setTop (entryFrame m #[(.ref a0), (.int i1)] 2)) tz_ := fun tz_ kz_ => castTop (ef_rm1 m a0 i1) kz_
  have K0 : Keep h0 h0 [a0] := Keep.refl h0 [a0]
  -- pc 1: Record.init
  obtain ⟨_, _, ⟨T31, L31, k31, n31⟩, -, X31, ⟨Lc31, hQ31, l31, y31, z31⟩, st31⟩ := X0.specialBack hx (y := (⟨"java/lang/Record", "<init>", "()V"⟩ : MethodName)) rfl hown (mvT hZ (hw _ (List.mem_of_getElem? (i := 6) rfl))) (mvT hZ (hw _ (List.mem_of_getElem? (i := 7) rfl))) (mvT hZ (hw _ (List.mem_of_getElem? (i := 10) rfl))) (by decide) (backOf (W := 0) (rm2 l Z av0 hw [] a0 h0 n0 (Nat.le_trans Z0 K0.1) ) hZ (hw _ (List.mem_of_getElem? (i := 10) rfl)) (hw _ (List.mem_of_getElem? (i := 9) rfl)) (by decide) (by decide)) (g := (mkF m 1 #[.val (.ref a0), .val (.int i1)] [(.ref a0)])) rfl (by rw [hml]; rfl) (Steps.refl _) (a := a0) (argsL := []) (rest := []) (lenOf pd_1 rfl) rfl (by show 2 * 0 + _ ≤ _; exact Nat.le_of_eq rfl) (hb hby d1_1) (fun vmx hWx => ⟨rfl, e0, (by decide : 0 + 0 ≤ _), (by decide : 0 + 0 ≤ _)⟩)
  dsimp only [Pt.U, Pt.locs, Pt.cells, Pt.slots] at X31 l31 y31 z31 st31 hQ31
  subst l31 y31 z31
  obtain ⟨rv31, Nq31, Kq31⟩ := hQ31
  subst rv31
  have N31 := Fr.app N0 Nq31
  obtain ⟨T32, h32, X32, e32, W32, st32⟩ := putF X31 hx hZ hown (host := "") (Or.inl (hw _ (List.mem_of_getElem? (i := 14) rfl))) Via.refl Kq31 p1_F p0_E (Or.inr ⟨(hw _ (List.mem_of_getElem? (i := 15) rfl)), rfl, hnm⟩) (hw _ (List.mem_of_getElem? (i := 1) rfl)) (ty := .int) (by decide) rfl rfl (g := (mkF m 6 #[.val (.ref a0), .val (.int i1)] [(.int i1), (.ref a0)])) rfl rfl (hb hby d1_6)
  have Fw32 : Fld Z h32 a0 "com/example/locktop/locktop/snapshot/Blocker$Backend" "pid" "I" (.int i1) := p1_F.same W32
  have N32 := Fr.snoc X32 N31 p2_g
  have K33 := K0.wr W32 (Or.inl (List.mem_of_getElem? (i := 0) rfl))
  obtain ⟨fs, hrL, hrun, hended, hW, hsame⟩ := X32.leave (v := none) (fun _ => rfl)
  have f34 := (p0_E.wr W32)
  refine ⟨_, _, pre0 _ ?_, hrun, hended, _, _, rfl, ?_, ⟨_, rfl⟩, hW, hsame.mono (by decide) (by decide)⟩
  · show Steps p.tables e below (s₁.setTop (mkF m 0 #[.val (.ref a0), .val (.int i1)] [])) _
    refine XS.aloadN X0.here hx rfl (hb hby d1_0) rfl rfl ?_
    show Steps p.tables e below (s₁.setTop (mkF m 1 #[.val (.ref a0), .val (.int i1)] [(.ref a0)])) _
    refine st31.trans ?_
    refine XS.aloadN X31.here hx rfl (hb hby d1_4) rfl rfl ?_
    show Steps p.tables e below (T31.setTop (mkF m 5 #[.val (.ref a0), .val (.int i1)] [(.ref a0)])) _
    refine XS.iloadN X31.here hx rfl (hb hby d1_5) rfl ?_
    show Steps p.tables e below (T31.setTop (mkF m 6 #[.val (.ref a0), .val (.int i1)] [(.int i1), (.ref a0)])) _
    refine st32 _ ?_
    show Steps p.tables e below (T32.setTop (mkF m 9 #[.val (.ref a0), .val (.int i1)] [])) _
    exact X32.returnOut hx Bd.returns (hb hby d1_9) hrL
  · show Q_rm1 _ _ _ _ _ _  T32.heap _
    rw [e32]
    exact ⟨rfl, N32, K33, f34, Fw32⟩
theorem d8_0 : decode prog_29_method_1_code 0 = .ok (.aload_n 0, 1) := by decide +kernel
theorem d8_1 : decode prog_29_method_1_code 1 = .ok (.invokespecial 1, 3) := by decide +kernel
theorem d8_4 : decode prog_29_method_1_code 4 = .ok (.aload_n 0, 1) := by decide +kernel
theorem d8_5 : decode prog_29_method_1_code 5 = .ok (.aload_n 1, 1) := by decide +kernel
theorem d8_6 : decode prog_29_method_1_code 6 = .ok (.putfield 7, 3) := by decide +kernel
theorem d8_9 : decode prog_29_method_1_code 9 = .ok (.return_, 1) := by decide +kernel
theorem pn_com_example_locktop_locktop_snapshot_Blocker_Prepared : plainName "com/example/locktop/locktop/snapshot/Blocker$Prepared" = true := by first | (simp [plainName, overriddenIn]; done) | decide +kernel
theorem ef_rm8 (m : MethodId) (a0 : Addr) (a1 : Addr) : entryFrame m #[(.ref a0), (.ref a1)] 2 = mkF m 0 #[.val (.ref a0), .val (.ref a1)] [] := by first | (simp [entryFrame, mkF, argsToLocals, Value.category]; done) | rfl
def Q_rm8 (Z : State) (a0 : Addr) (a1 : Addr) (h0 : Heap) (n0 : Nat) (v : Option Value) (h : Heap) (L : List Loc) : Prop := v = none ∧ Fr n0 L ∧ Keep h0 h [a0] ∧ Exa Z h a0 "com/example/locktop/locktop/snapshot/Blocker$Prepared" ∧ Fld Z h a0 "com/example/locktop/locktop/snapshot/Blocker$Prepared" "gid" "Ljava/lang/String;" (.ref a1)
set_option maxRecDepth 65536 in
set_option maxHeartbeats 40000000 in
theorem rm8 (l : Launch) (Z : State) (av0 : Array Value) (hw : ∀ d ∈ tables_1, d.before av0 Z = true) (ws : List Jvm.Cond) (a0 : Addr) (a1 : Addr) (h0 : Heap) (n0 : Nat) (Z0 : n0 ≤ h0.size) (p0_E : Exa Z h0 a0 "com/example/locktop/locktop/snapshot/Blocker$Prepared") (p1_F : Fld Z h0 a0 "com/example/locktop/locktop/snapshot/Blocker$Prepared" "gid" "Ljava/lang/String;" .null) (p2_g : n0 ≤ a0) :
    MetFree l (⟨"com/example/locktop/locktop/snapshot/Blocker$Prepared", "<init>", "(Ljava/lang/String;)V"⟩ : MethodName) (head1 (Jvm.Cond.code (⟨"com/example/locktop/locktop/snapshot/Blocker$Prepared", "<init>", "(Ljava/lang/String;)V"⟩ : MethodName) prog_29_method_1_code 2 none :: ws) ({ frames := 2, cells := 0, slots := 0, locals := 24 } : Room)) (fun a U => a = #[(.ref a0), (.ref a1)] ∧ Z.Warmed39 U.vm ∧ U.heap = h0) (fun _ _ _ _ _ => True) (fun _ U o U' => ∃ v L, o = .returned v ∧ Q_rm8 Z a0 a1 h0 n0 v U'.heap L ∧ FrameEnd U o U' L ({ frames := 2, cells := 0, slots := 0, locals := 24 } : Room).cells ({ frames := 2, cells := 0, slots := 0, locals := 24 } : Room).slots) := by
  refine MetFree.of_bodySF (plainFor_of_name pn_com_example_locktop_locktop_snapshot_Blocker_Prepared) hisR ?_
  intro p e s m args below meth c s₁ Bd hml0 hP hK
  obtain ⟨rfl, hZ, hh⟩ := hP
  have hx := Bd.exec
  have hby := Bd.bytes
  have hml : c.maxLocals = 2 := hml0
  have hown : s.vm.findClass "com/example/locktop/locktop/snapshot/Blocker$Prepared" = some m.cls := findClass_of_methodNamed Bd.named
  have hnm := (name_of_methodNamed Bd.named Bd.method).1
  have X0 : Stand p l e ({ frames := 2, cells := 0, slots := 0, locals := 24 } : Room) s m #[(.ref a0), (.ref a1)] below meth c s₁ [] 0 0 := Stand.of_body Bd
  have e0 : s₁.heap = h0 := by rw [← hh, Bd.state]; rfl
  have N0 := Fr.nil n0
  have pre0 : ∀ tz_, Steps p.tables e below (s₁.setTop (mkF m 0 #[.val (.ref a0), .val (.ref a1)] [])) tz_ → Steps p.tables e below (s₁.setTop (entryFrame m #[(.ref a0), (.ref a1)] 2)) tz_ := fun tz_ kz_ => castTop (ef_rm8 m a0 a1) kz_
  have K0 : Keep h0 h0 [a0] := Keep.refl h0 [a0]
  -- pc 1: Record.init
  obtain ⟨_, _, ⟨T31, L31, k31, n31⟩, -, X31, ⟨Lc31, hQ31, l31, y31, z31⟩, st31⟩ := X0.specialBack hx (y := (⟨"java/lang/Record", "<init>", "()V"⟩ : MethodName)) rfl hown (mvT hZ (hw _ (List.mem_of_getElem? (i := 47) rfl))) (mvT hZ (hw _ (List.mem_of_getElem? (i := 7) rfl))) (mvT hZ (hw _ (List.mem_of_getElem? (i := 10) rfl))) (by decide) (backOf (W := 0) (rm2 l Z av0 hw [] a0 h0 n0 (Nat.le_trans Z0 K0.1) ) hZ (hw _ (List.mem_of_getElem? (i := 10) rfl)) (hw _ (List.mem_of_getElem? (i := 9) rfl)) (by decide) (by decide)) (g := (mkF m 1 #[.val (.ref a0), .val (.ref a1)] [(.ref a0)])) rfl (by rw [hml]; rfl) (Steps.refl _) (a := a0) (argsL := []) (rest := []) (lenOf pd_1 rfl) rfl (by show 2 * 0 + _ ≤ _; exact Nat.le_of_eq rfl) (hb hby d8_1) (fun vmx hWx => ⟨rfl, e0, (by decide : 0 + 0 ≤ _), (by decide : 0 + 0 ≤ _)⟩)
  dsimp only [Pt.U, Pt.locs, Pt.cells, Pt.slots] at X31 l31 y31 z31 st31 hQ31
  subst l31 y31 z31
  obtain ⟨rv31, Nq31, Kq31⟩ := hQ31
  subst rv31
  have N31 := Fr.app N0 Nq31
  obtain ⟨T32, h32, X32, e32, W32, st32⟩ := putF X31 hx hZ hown (host := "") (Or.inl (hw _ (List.mem_of_getElem? (i := 48) rfl))) Via.refl Kq31 p1_F p0_E (Or.inr ⟨(hw _ (List.mem_of_getElem? (i := 49) rfl)), rfl, hnm⟩) (hw _ (List.mem_of_getElem? (i := 18) rfl)) (ty := (.object "java/lang/String")) (by decide) rfl rfl (g := (mkF m 6 #[.val (.ref a0), .val (.ref a1)] [(.ref a1), (.ref a0)])) rfl rfl (hb hby d8_6)
  have Fw32 : Fld Z h32 a0 "com/example/locktop/locktop/snapshot/Blocker$Prepared" "gid" "Ljava/lang/String;" (.ref a1) := p1_F.same W32
  have N32 := Fr.snoc X32 N31 p2_g
  have K33 := K0.wr W32 (Or.inl (List.mem_of_getElem? (i := 0) rfl))
  obtain ⟨fs, hrL, hrun, hended, hW, hsame⟩ := X32.leave (v := none) (fun _ => rfl)
  have f34 := (p0_E.wr W32)
  refine ⟨_, _, pre0 _ ?_, hrun, hended, _, _, rfl, ?_, ⟨_, rfl⟩, hW, hsame.mono (by decide) (by decide)⟩
  · show Steps p.tables e below (s₁.setTop (mkF m 0 #[.val (.ref a0), .val (.ref a1)] [])) _
    refine XS.aloadN X0.here hx rfl (hb hby d8_0) rfl rfl ?_
    show Steps p.tables e below (s₁.setTop (mkF m 1 #[.val (.ref a0), .val (.ref a1)] [(.ref a0)])) _
    refine st31.trans ?_
    refine XS.aloadN X31.here hx rfl (hb hby d8_4) rfl rfl ?_
    show Steps p.tables e below (T31.setTop (mkF m 5 #[.val (.ref a0), .val (.ref a1)] [(.ref a0)])) _
    refine XS.aloadN X31.here hx rfl (hb hby d8_5) rfl rfl ?_
    show Steps p.tables e below (T31.setTop (mkF m 6 #[.val (.ref a0), .val (.ref a1)] [(.ref a1), (.ref a0)])) _
    refine st32 _ ?_
    show Steps p.tables e below (T32.setTop (mkF m 9 #[.val (.ref a0), .val (.ref a1)] [])) _
    exact X32.returnOut hx Bd.returns (hb hby d8_9) hrL
  · show Q_rm8 _ _ _ _ _ _  T32.heap _
    rw [e32]
    exact ⟨rfl, N32, K33, f34, Fw32⟩
theorem d11_0 : decode jdk_33_method_23_code 0 = .ok (.aload_n 0, 1) := by decide +kernel
theorem d11_1 : decode jdk_33_method_23_code 1 = .ok (.invokespecial 202, 3) := by decide +kernel
theorem d11_4 : decode jdk_33_method_23_code 4 = .ok (.aload_n 0, 1) := by decide +kernel
theorem d11_5 : decode jdk_33_method_23_code 5 = .ok (.iload_n 1, 1) := by decide +kernel
theorem d11_6 : decode jdk_33_method_23_code 6 = .ok (.putfield 205, 3) := by decide +kernel
theorem d11_9 : decode jdk_33_method_23_code 9 = .ok (.return_, 1) := by decide +kernel
theorem pn_java_lang_Integer : plainName "java/lang/Integer" = true := by first | (simp [plainName, overriddenIn]; done) | decide +kernel
theorem ef_rm11 (m : MethodId) (a0 : Addr) (i1 : Int32) : entryFrame m #[(.ref a0), (.int i1)] 2 = mkF m 0 #[.val (.ref a0), .val (.int i1)] [] := by first | (simp [entryFrame, mkF, argsToLocals, Value.category]; done) | rfl
def Q_rm11 (Z : State) (a0 : Addr) (i1 : Int32) (h0 : Heap) (n0 : Nat) (v : Option Value) (h : Heap) (L : List Loc) : Prop := v = none ∧ Fr n0 L ∧ Keep h0 h [a0] ∧ Exa Z h a0 "java/lang/Integer" ∧ Fld Z h a0 "java/lang/Integer" "value" "I" (.int i1)
set_option maxRecDepth 65536 in
set_option maxHeartbeats 40000000 in
theorem rm11 (l : Launch) (Z : State) (av0 : Array Value) (hw : ∀ d ∈ tables_1, d.before av0 Z = true) (ws : List Jvm.Cond) (a0 : Addr) (i1 : Int32) (h0 : Heap) (n0 : Nat) (Z0 : n0 ≤ h0.size) (p0_E : Exa Z h0 a0 "java/lang/Integer") (p1_F : Fld Z h0 a0 "java/lang/Integer" "value" "I" (.int 0)) (p2_g : n0 ≤ a0) :
    MetFree l (⟨"java/lang/Integer", "<init>", "(I)V"⟩ : MethodName) (head1 (Jvm.Cond.code (⟨"java/lang/Integer", "<init>", "(I)V"⟩ : MethodName) jdk_33_method_23_code 2 none :: ws) ({ frames := 2, cells := 0, slots := 0, locals := 24 } : Room)) (fun a U => a = #[(.ref a0), (.int i1)] ∧ Z.Warmed39 U.vm ∧ U.heap = h0) (fun _ _ _ _ _ => True) (fun _ U o U' => ∃ v L, o = .returned v ∧ Q_rm11 Z a0 i1 h0 n0 v U'.heap L ∧ FrameEnd U o U' L ({ frames := 2, cells := 0, slots := 0, locals := 24 } : Room).cells ({ frames := 2, cells := 0, slots := 0, locals := 24 } : Room).slots) := by
  refine MetFree.of_bodySF (plainFor_of_name pn_java_lang_Integer) hisR ?_
  intro p e s m args below meth c s₁ Bd hml0 hP hK
  obtain ⟨rfl, hZ, hh⟩ := hP
  have hx := Bd.exec
  have hby := Bd.bytes
  have hml : c.maxLocals = 2 := hml0
  have hown : s.vm.findClass "java/lang/Integer" = some m.cls := findClass_of_methodNamed Bd.named
  have hnm := (name_of_methodNamed Bd.named Bd.method).1
  have X0 : Stand p l e ({ frames := 2, cells := 0, slots := 0, locals := 24 } : Room) s m #[(.ref a0), (.int i1)] below meth c s₁ [] 0 0 := Stand.of_body Bd
  have e0 : s₁.heap = h0 := by rw [← hh, Bd.state]; rfl
  have N0 := Fr.nil n0
  have pre0 : ∀ tz_, Steps p.tables e below (s₁.setTop (mkF m 0 #[.val (.ref a0), .val (.int i1)] [])) tz_ → Steps p.tables e below (s₁.setTop (entryFrame m #[(.ref a0), (.int i1)] 2)) tz_ := fun tz_ kz_ => castTop (ef_rm11 m a0 i1) kz_
  have K0 : Keep h0 h0 [a0] := Keep.refl h0 [a0]
  -- pc 1: Number.init
  obtain ⟨_, _, ⟨T31, L31, k31, n31⟩, -, X31, ⟨Lc31, hQ31, l31, y31, z31⟩, st31⟩ := X0.specialBack hx (y := (⟨"java/lang/Number", "<init>", "()V"⟩ : MethodName)) rfl hown (mvT hZ (hw _ (List.mem_of_getElem? (i := 75) rfl))) (mvT hZ (hw _ (List.mem_of_getElem? (i := 76) rfl))) (mvT hZ (hw _ (List.mem_of_getElem? (i := 80) rfl))) (by decide) (backOf (W := 0) (rm12 l Z av0 hw [] a0 h0 n0 (Nat.le_trans Z0 K0.1) ) hZ (hw _ (List.mem_of_getElem? (i := 80) rfl)) (hw _ (List.mem_of_getElem? (i := 79) rfl)) (by decide) (by decide)) (g := (mkF m 1 #[.val (.ref a0), .val (.int i1)] [(.ref a0)])) rfl (by rw [hml]; rfl) (Steps.refl _) (a := a0) (argsL := []) (rest := []) (lenOf pd_1 rfl) rfl (by show 2 * 0 + _ ≤ _; exact Nat.le_of_eq rfl) (hb hby d11_1) (fun vmx hWx => ⟨rfl, e0, (by decide : 0 + 0 ≤ _), (by decide : 0 + 0 ≤ _)⟩)
  dsimp only [Pt.U, Pt.locs, Pt.cells, Pt.slots] at X31 l31 y31 z31 st31 hQ31
  subst l31 y31 z31
  obtain ⟨rv31, Nq31, Kq31⟩ := hQ31
  subst rv31
  have N31 := Fr.app N0 Nq31
  obtain ⟨T32, h32, X32, e32, W32, st32⟩ := putF X31 hx hZ hown (host := "") (Or.inl (hw _ (List.mem_of_getElem? (i := 82) rfl))) Via.refl Kq31 p1_F p0_E (Or.inr ⟨(hw _ (List.mem_of_getElem? (i := 83) rfl)), rfl, hnm⟩) (hw _ (List.mem_of_getElem? (i := 70) rfl)) (ty := .int) (by decide) rfl rfl (g := (mkF m 6 #[.val (.ref a0), .val (.int i1)] [(.int i1), (.ref a0)])) rfl rfl (hb hby d11_6)
  have Fw32 : Fld Z h32 a0 "java/lang/Integer" "value" "I" (.int i1) := p1_F.same W32
  have N32 := Fr.snoc X32 N31 p2_g
  have K33 := K0.wr W32 (Or.inl (List.mem_of_getElem? (i := 0) rfl))
  obtain ⟨fs, hrL, hrun, hended, hW, hsame⟩ := X32.leave (v := none) (fun _ => rfl)
  have f34 := (p0_E.wr W32)
  refine ⟨_, _, pre0 _ ?_, hrun, hended, _, _, rfl, ?_, ⟨_, rfl⟩, hW, hsame.mono (by decide) (by decide)⟩
  · show Steps p.tables e below (s₁.setTop (mkF m 0 #[.val (.ref a0), .val (.int i1)] [])) _
    refine XS.aloadN X0.here hx rfl (hb hby d11_0) rfl rfl ?_
    show Steps p.tables e below (s₁.setTop (mkF m 1 #[.val (.ref a0), .val (.int i1)] [(.ref a0)])) _
    refine st31.trans ?_
    refine XS.aloadN X31.here hx rfl (hb hby d11_4) rfl rfl ?_
    show Steps p.tables e below (T31.setTop (mkF m 5 #[.val (.ref a0), .val (.int i1)] [(.ref a0)])) _
    refine XS.iloadN X31.here hx rfl (hb hby d11_5) rfl ?_
    show Steps p.tables e below (T31.setTop (mkF m 6 #[.val (.ref a0), .val (.int i1)] [(.int i1), (.ref a0)])) _
    refine st32 _ ?_
    show Steps p.tables e below (T32.setTop (mkF m 9 #[.val (.ref a0), .val (.int i1)] [])) _
    exact X32.returnOut hx Bd.returns (hb hby d11_9) hrL
  · show Q_rm11 _ _ _ _ _ _  T32.heap _
    rw [e32]
    exact ⟨rfl, N32, K33, f34, Fw32⟩
theorem d5_0 : decode jdk_43_method_3_code 0 = .ok (.iload_n 0, 1) := by decide +kernel
theorem d5_1 : decode jdk_43_method_3_code 1 = .ok (.sipush 255, 3) := by decide +kernel
theorem d5_4 : decode jdk_43_method_3_code 4 = .ok (.if_icmp .gt 7, 3) := by decide +kernel
theorem d5_7 : decode jdk_43_method_3_code 7 = .ok (.iconst 1, 1) := by decide +kernel
theorem d5_8 : decode jdk_43_method_3_code 8 = .ok (.goto 4, 3) := by decide +kernel
theorem d5_12 : decode jdk_43_method_3_code 12 = .ok (.ireturn, 1) := by decide +kernel
theorem pn_java_lang_StringLatin1 : plainName "java/lang/StringLatin1" = true := by first | (simp [plainName, overriddenIn]; done) | decide +kernel
theorem ef_rm5 (m : MethodId) (i0 : Int32) : entryFrame m #[(.int i0)] 1 = mkF m 0 #[.val (.int i0)] [] := by first | (simp [entryFrame, mkF, argsToLocals, Value.category]; done) | rfl
def Q_rm5 (Z : State) (i0 : Int32) (h0 : Heap) (n0 : Nat) (v : Option Value) (h : Heap) (L : List Loc) : Prop := v = some (.int 1) ∧ Fr n0 L ∧ h = h0
set_option maxRecDepth 65536 in
set_option maxHeartbeats 40000000 in
theorem rm5 (l : Launch) (Z : State) (av0 : Array Value) (hw : ∀ d ∈ tables_1, d.before av0 Z = true) (ws : List Jvm.Cond) (i0 : Int32) (h0 : Heap) (n0 : Nat) (Z0 : n0 ≤ h0.size) (hle : ¬ ((255 : Int32) < i0)) :
    MetFree l (⟨"java/lang/StringLatin1", "canEncode", "(C)Z"⟩ : MethodName) (head1 (Jvm.Cond.code (⟨"java/lang/StringLatin1", "canEncode", "(C)Z"⟩ : MethodName) jdk_43_method_3_code 1 (some .boolean) :: ws) ({ frames := 0, cells := 0, slots := 0, locals := 0 } : Room)) (fun a U => a = #[(.int i0)] ∧ Z.Warmed39 U.vm ∧ U.heap = h0) (fun _ _ _ _ _ => True) (fun _ U o U' => ∃ v L, o = .returned v ∧ Q_rm5 Z i0 h0 n0 v U'.heap L ∧ FrameEnd U o U' L ({ frames := 0, cells := 0, slots := 0, locals := 0 } : Room).cells ({ frames := 0, cells := 0, slots := 0, locals := 0 } : Room).slots) := by
  refine MetFree.of_bodySF (plainFor_of_name pn_java_lang_StringLatin1) hisR ?_
  intro p e s m args below meth c s₁ Bd hml0 hP hK
  obtain ⟨rfl, hZ, hh⟩ := hP
  have hx := Bd.exec
  have hby := Bd.bytes
  have hml : c.maxLocals = 1 := hml0
  have hown : s.vm.findClass "java/lang/StringLatin1" = some m.cls := findClass_of_methodNamed Bd.named
  have hnm := (name_of_methodNamed Bd.named Bd.method).1
  have X0 : Stand p l e ({ frames := 0, cells := 0, slots := 0, locals := 0 } : Room) s m #[(.int i0)] below meth c s₁ [] 0 0 := Stand.of_body Bd
  have e0 : s₁.heap = h0 := by rw [← hh, Bd.state]; rfl
  have N0 := Fr.nil n0
  have pre0 : ∀ tz_, Steps p.tables e below (s₁.setTop (mkF m 0 #[.val (.int i0)] [])) tz_ → Steps p.tables e below (s₁.setTop (entryFrame m #[(.int i0)] 1)) tz_ := fun tz_ kz_ => castTop (ef_rm5 m i0) kz_
  obtain ⟨fs, hrL, hrun, hended, hW, hsame⟩ := X0.leave (v := some (.int 1)) (fun h => by rw [Bd.returns] at h; cases h)
  refine ⟨_, _, pre0 _ ?_, hrun, hended, _, _, rfl, ?_, ⟨_, rfl⟩, hW, hsame.mono (by decide) (by decide)⟩
  · show Steps p.tables e below (s₁.setTop (mkF m 0 #[.val (.int i0)] [])) _
    refine XS.iloadN X0.here hx rfl (hb hby d5_0) rfl ?_
    refine XS.sipush X0.here hx rfl (hb hby d5_1) ?_
    show Steps p.tables e below (s₁.setTop (mkF m 4 #[.val (.int i0)] [(.int 255), (.int i0)])) _
    refine XS.icmpNo X0.here hx rfl (hb hby d5_4) rfl (flt hle).2.2.1 ?_
    show Steps p.tables e below (s₁.setTop (mkF m 7 #[.val (.int i0)] [])) _
    refine XS.iconst X0.here hx rfl (hb hby d5_7) ?_
    refine XS.goto X0.here hx rfl (pc0 := 8) (pc' := 12) rfl (hb hby d5_8) (by decide) (by decide) ?_
    show Steps p.tables e below (s₁.setTop (mkF m 12 #[.val (.int i0)] [(.int 1)])) _
    exact retN X0 hx (t := .boolean) Bd.returns (by simp) (hb hby d5_12) hrL
  · show Q_rm5 _ _ _ _ _  s₁.heap _
    rw [e0]
    exact ⟨rfl, N0, rfl⟩
theorem d6_0 : decode jdk_43_method_46_code 0 = .ok (.iconst 1, 1) := by decide +kernel
theorem d6_1 : decode jdk_43_method_46_code 1 = .ok (.newarray .byte, 2) := by decide +kernel
theorem d6_3 : decode jdk_43_method_46_code 3 = .ok (.dup, 1) := by decide +kernel
theorem d6_4 : decode jdk_43_method_46_code 4 = .ok (.iconst 0, 1) := by decide +kernel
theorem d6_5 : decode jdk_43_method_46_code 5 = .ok (.iload_n 0, 1) := by decide +kernel
theorem d6_6 : decode jdk_43_method_46_code 6 = .ok (.i2b, 1) := by decide +kernel
theorem d6_7 : decode jdk_43_method_46_code 7 = .ok (.bastore, 1) := by decide +kernel
theorem d6_8 : decode jdk_43_method_46_code 8 = .ok (.areturn, 1) := by decide +kernel
theorem ef_rm6 (m : MethodId) (i0 : Int32) : entryFrame m #[(.int i0)] 1 = mkF m 0 #[.val (.int i0)] [] := by first | (simp [entryFrame, mkF, argsToLocals, Value.category]; done) | rfl
def Q_rm6 (Z : State) (i0 : Int32) (h0 : Heap) (n0 : Nat) (v : Option Value) (h : Heap) (L : List Loc) : Prop := ∃ b : Addr, ∃ kb : ClassId, v = some (.ref b) ∧ Fr n0 L ∧ Keep h0 h [] ∧ h0.size ≤ b ∧ Arv Z h b kb .byte (1 : Int32) [(.int (i0.toInt8.toInt32))] (.int 0)
set_option maxRecDepth 65536 in
set_option maxHeartbeats 40000000 in
theorem rm6 (l : Launch) (Z : State) (av0 : Array Value) (hw : ∀ d ∈ tables_1, d.before av0 Z = true) (ws : List Jvm.Cond) (i0 : Int32) (h0 : Heap) (n0 : Nat) (Z0 : n0 ≤ h0.size) :
    MetFree l (⟨"java/lang/StringLatin1", "toBytes", "(C)[B"⟩ : MethodName) (head1 (Jvm.Cond.code (⟨"java/lang/StringLatin1", "toBytes", "(C)[B"⟩ : MethodName) jdk_43_method_46_code 1 (some (.array .byte)) :: ws) ({ frames := 0, cells := 1, slots := 1, locals := 0 } : Room)) (fun a U => a = #[(.int i0)] ∧ Z.Warmed39 U.vm ∧ U.heap = h0) (fun _ _ _ _ _ => True) (fun _ U o U' => ∃ v L, o = .returned v ∧ Q_rm6 Z i0 h0 n0 v U'.heap L ∧ FrameEnd U o U' L ({ frames := 0, cells := 1, slots := 1, locals := 0 } : Room).cells ({ frames := 0, cells := 1, slots := 1, locals := 0 } : Room).slots) := by
  refine MetFree.of_bodySF (plainFor_of_name pn_java_lang_StringLatin1) hisR ?_
  intro p e s m args below meth c s₁ Bd hml0 hP hK
  obtain ⟨rfl, hZ, hh⟩ := hP
  have hx := Bd.exec
  have hby := Bd.bytes
  have hml : c.maxLocals = 1 := hml0
  have hown : s.vm.findClass "java/lang/StringLatin1" = some m.cls := findClass_of_methodNamed Bd.named
  have hnm := (name_of_methodNamed Bd.named Bd.method).1
  have X0 : Stand p l e ({ frames := 0, cells := 1, slots := 1, locals := 0 } : Room) s m #[(.int i0)] below meth c s₁ [] 0 0 := Stand.of_body Bd
  have e0 : s₁.heap = h0 := by rw [← hh, Bd.state]; rfl
  have N0 := Fr.nil n0
  have pre0 : ∀ tz_, Steps p.tables e below (s₁.setTop (mkF m 0 #[.val (.int i0)] [])) tz_ → Steps p.tables e below (s₁.setTop (entryFrame m #[(.int i0)] 1)) tz_ := fun tz_ kz_ => castTop (ef_rm6 m i0) kz_
  have K0 : Keep h0 h0 [] := Keep.refl h0 []
  obtain ⟨T31, h31, k31, X31, e31, E31, A31, st31⟩ := newP X0 hx hZ (hw _ (List.mem_of_getElem? (i := 34) rfl)) e0 (g := (mkF m 1 #[.val (.int i0)] [(.int 1)])) rfl (hb hby d6_1) rfl (by decide) (cap := 1) (by decide) (by decide) (by decide) (by decide)
  obtain ⟨b31, q31⟩ : ∃ z, z = h0.size := ⟨_, rfl⟩
  rw [← q31] at A31 st31
  have g_b31 : n0 ≤ b31 := Nat.le_trans (Nat.le_trans Z0 K0.1) (Nat.le_of_eq q31.symm)
  have sz_b31 : h0.size ≤ b31 := Nat.le_trans K0.1 (Nat.le_of_eq q31.symm)
  have V31 : Arv Z h31 b31 k31 .byte (1 : Int32) [(.int 0)] (.int 0) := (Arv.new A31 (by decide)).pad (pad_rep [] (.int 0) 1)
  have K32 := K0.ext E31
  obtain ⟨cl33, Ar33, qk33, qs33, qn33, qh33, qg33⟩ := id V31
  have hin33 : ¬ ((0 : Int32) < 0 ∨ cl33.slots.size ≤ ((0 : Int32)).toNatClampNeg) := inb_of qs33 ⟨by decide, by decide⟩
  obtain ⟨T34, h34, X34, e34, W34, st34⟩ := stB X31 hx hZ e31 Ar33 (j := (0 : Int32)) hin33 (g := (mkF m 7 #[.val (.int i0)] [(.int (i0.toInt8.toInt32)), (.int 0), (.ref b31), (.ref b31)])) rfl rfl (hb hby d6_7)
  have V34 : Arv Z h34 b31 k31 .byte (1 : Int32) [(.int ((i0.toInt8.toInt32).toInt8.toInt32))] (.int 0) := Arv.set Ar33 qk33 qs33 qn33 qh33 qg33 (fits_nar_byte _) W34 0 rfl (Nat.le_of_ble_eq_true rfl)
  rw [own_b8] at V34
  have N34 := Fr.snoc X34 N0 g_b31
  have K35 := K32.wr W34 (Or.inr sz_b31)
  obtain ⟨fs, hrL, hrun, hended, hW, hsame⟩ := X34.leave (v := some (.ref b31)) (fun h => by rw [Bd.returns] at h; cases h)
  refine ⟨_, _, pre0 _ ?_, hrun, hended, _, _, rfl, ?_, ⟨_, rfl⟩, hW, hsame.mono (by decide) (by decide)⟩
  · show Steps p.tables e below (s₁.setTop (mkF m 0 #[.val (.int i0)] [])) _
    refine XS.iconst X0.here hx rfl (hb hby d6_0) ?_
    show Steps p.tables e below (s₁.setTop (mkF m 1 #[.val (.int i0)] [(.int 1)])) _
    refine st31 _ ?_
    refine XS.dup X31.here hx rfl (hb hby d6_3) rfl rfl ?_
    show Steps p.tables e below (T31.setTop (mkF m 4 #[.val (.int i0)] [(.ref b31), (.ref b31)])) _
    refine XS.iconst X31.here hx rfl (hb hby d6_4) ?_
    refine XS.iloadN X31.here hx rfl (hb hby d6_5) rfl ?_
    show Steps p.tables e below (T31.setTop (mkF m 6 #[.val (.int i0)] [(.int i0), (.int 0), (.ref b31), (.ref b31)])) _
    refine XS.i2b X31.here hx rfl (hb hby d6_6) rfl ?_
    show Steps p.tables e below (T31.setTop (mkF m 7 #[.val (.int i0)] [(.int (i0.toInt8.toInt32)), (.int 0), (.ref b31), (.ref b31)])) _
    refine st34 _ ?_
    show Steps p.tables e below (T34.setTop (mkF m 8 #[.val (.int i0)] [(.ref b31)])) _
    exact retOut X34 hx Bd.returns rfl (Or.inr (Or.inr (Or.inr (Or.inr ⟨rfl, rfl, rfl⟩)))) (hb hby d6_8) hrL
  · show Q_rm6 _ _ _ _ _  T34.heap _
    rw [e34]
    exact ⟨b31, k31, rfl, N34, K35, sz_b31, V34⟩
theorem d7_0 : decode jdk_42_method_151_code 0 = .ok (.aload_n 0, 1) := by decide +kernel
theorem d7_1 : decode jdk_42_method_151_code 1 = .ok (.invokespecial 1, 3) := by decide +kernel
theorem d7_4 : decode jdk_42_method_151_code 4 = .ok (.aload_n 0, 1) := by decide +kernel
theorem d7_5 : decode jdk_42_method_151_code 5 = .ok (.aload_n 1, 1) := by decide +kernel
theorem d7_6 : decode jdk_42_method_151_code 6 = .ok (.putfield 9, 3) := by decide +kernel
theorem d7_9 : decode jdk_42_method_151_code 9 = .ok (.aload_n 0, 1) := by decide +kernel
theorem d7_10 : decode jdk_42_method_151_code 10 = .ok (.iload_n 2, 1) := by decide +kernel
theorem d7_11 : decode jdk_42_method_151_code 11 = .ok (.putfield 15, 3) := by decide +kernel
theorem d7_14 : decode jdk_42_method_151_code 14 = .ok (.return_, 1) := by decide +kernel
theorem pn_java_lang_String : plainName "java/lang/String" = true := by first | (simp [plainName, overriddenIn]; done) | decide +kernel
theorem ef_rm7 (m : MethodId) (a0 : Addr) (a1 : Addr) : entryFrame m #[(.ref a0), (.ref a1), (.int 0)] 3 = mkF m 0 #[.val (.ref a0), .val (.ref a1), .val (.int 0)] [] := by first | (simp [entryFrame, mkF, argsToLocals, Value.category]; done) | rfl
def Q_rm7 (Z : State) (a0 : Addr) (a1 : Addr) (h0 : Heap) (n0 : Nat) (v : Option Value) (h : Heap) (L : List Loc) : Prop := v = none ∧ Fr n0 L ∧ Keep h0 h [a0] ∧ Exa Z h a0 "java/lang/String" ∧ Fld Z h a0 "java/lang/String" "value" "[B" (.ref a1) ∧ Fld Z h a0 "java/lang/String" "coder" "B" (.int 0)
set_option maxRecDepth 65536 in
set_option maxHeartbeats 40000000 in
theorem rm7 (l : Launch) (Z : State) (av0 : Array Value) (hw : ∀ d ∈ tables_1, d.before av0 Z = true) (ws : List Jvm.Cond) (a0 : Addr) (a1 : Addr) (h0 : Heap) (n0 : Nat) (Z0 : n0 ≤ h0.size) (p0_E : Exa Z h0 a0 "java/lang/String") (p1_F : Fld Z h0 a0 "java/lang/String" "value" "[B" .null) (p2_F : Fld Z h0 a0 "java/lang/String" "coder" "B" (.int 0)) (p3_g : n0 ≤ a0) :
    MetFree l (⟨"java/lang/String", "<init>", "([BB)V"⟩ : MethodName) (head1 (Jvm.Cond.code (⟨"java/lang/String", "<init>", "([BB)V"⟩ : MethodName) jdk_42_method_151_code 3 none :: ws) ({ frames := 1, cells := 0, slots := 0, locals := 12 } : Room)) (fun a U => a = #[(.ref a0), (.ref a1), (.int 0)] ∧ Z.Warmed39 U.vm ∧ U.heap = h0) (fun _ _ _ _ _ => True) (fun _ U o U' => ∃ v L, o = .returned v ∧ Q_rm7 Z a0 a1 h0 n0 v U'.heap L ∧ FrameEnd U o U' L ({ frames := 1, cells := 0, slots := 0, locals := 12 } : Room).cells ({ frames := 1, cells := 0, slots := 0, locals := 12 } : Room).slots) := by
  refine MetFree.of_bodySF (plainFor_of_name pn_java_lang_String) hisR ?_
  intro p e s m args below meth c s₁ Bd hml0 hP hK
  obtain ⟨rfl, hZ, hh⟩ := hP
  have hx := Bd.exec
  have hby := Bd.bytes
  have hml : c.maxLocals = 3 := hml0
  have hown : s.vm.findClass "java/lang/String" = some m.cls := findClass_of_methodNamed Bd.named
  have hnm := (name_of_methodNamed Bd.named Bd.method).1
  have X0 : Stand p l e ({ frames := 1, cells := 0, slots := 0, locals := 12 } : Room) s m #[(.ref a0), (.ref a1), (.int 0)] below meth c s₁ [] 0 0 := Stand.of_body Bd
  have e0 : s₁.heap = h0 := by rw [← hh, Bd.state]; rfl
  have N0 := Fr.nil n0
  have pre0 : ∀ tz_, Steps p.tables e below (s₁.setTop (mkF m 0 #[.val (.ref a0), .val (.ref a1), .val (.int 0)] [])) tz_ → Steps p.tables e below (s₁.setTop (entryFrame m #[(.ref a0), (.ref a1), (.int 0)] 3)) tz_ := fun tz_ kz_ => castTop (ef_rm7 m a0 a1) kz_
  have K0 : Keep h0 h0 [a0] := Keep.refl h0 [a0]
  obtain ⟨T31, X31, e31, st31⟩ := initO X0 hx hZ hown (hw _ (List.mem_of_getElem? (i := 39) rfl)) (hw _ (List.mem_of_getElem? (i := 12) rfl)) (hw _ (List.mem_of_getElem? (i := 13) rfl)) e0 (g := (mkF m 1 #[.val (.ref a0), .val (.ref a1), .val (.int 0)] [(.ref a0)])) rfl (by rw [hml]; rfl) rfl (hb hby d7_1) (by decide) (W := 0) (by show 2 * 0 + _ ≤ _; exact Nat.le_of_eq rfl) (by decide)
  obtain ⟨T32, h32, X32, e32, W32, st32⟩ := putF X31 hx hZ hown (host := "") (Or.inl (hw _ (List.mem_of_getElem? (i := 40) rfl))) Via.refl e31 p1_F p0_E (Or.inr ⟨(hw _ (List.mem_of_getElem? (i := 41) rfl)), rfl, hnm⟩) (hw _ (List.mem_of_getElem? (i := 30) rfl)) (ty := (.array .byte)) (by decide) rfl rfl (g := (mkF m 6 #[.val (.ref a0), .val (.ref a1), .val (.int 0)] [(.ref a1), (.ref a0)])) rfl rfl (hb hby d7_6)
  have Fw32 : Fld Z h32 a0 "java/lang/String" "value" "[B" (.ref a1) := p1_F.same W32
  have N32 := Fr.snoc X32 N0 p3_g
  have K33 := K0.wr W32 (Or.inl (List.mem_of_getElem? (i := 0) rfl))
  have f34 := (p2_F.other W32 (Or.inr (slot_ne (Or.inr (hw _ (List.mem_of_getElem? (i := 43) rfl))) (Or.inr (hw _ (List.mem_of_getElem? (i := 41) rfl))) (by decide) (t := .byte) (t' := (.array .byte)) (by decide) (by decide))))
  have f35 := (p0_E.wr W32)
  obtain ⟨T36, h36, X36, e36, W36, st36⟩ := putF X32 hx hZ hown (host := "") (Or.inl (hw _ (List.mem_of_getElem? (i := 42) rfl))) Via.refl e32 f34 f35 (Or.inr ⟨(hw _ (List.mem_of_getElem? (i := 43) rfl)), rfl, hnm⟩) (hw _ (List.mem_of_getElem? (i := 30) rfl)) (ty := .byte) (by decide) rfl rfl (g := (mkF m 11 #[.val (.ref a0), .val (.ref a1), .val (.int 0)] [(.int 0), (.ref a0)])) rfl rfl (hb hby d7_11)
  have Fw36 : Fld Z h36 a0 "java/lang/String" "coder" "B" (.int 0) := f34.same W36
  have N36 := Fr.snoc X36 N32 p3_g
  have K37 := K33.wr W36 (Or.inl (List.mem_of_getElem? (i := 0) rfl))
  obtain ⟨fs, hrL, hrun, hended, hW, hsame⟩ := X36.leave (v := none) (fun _ => rfl)
  have f38 := (f35.wr W36)
  have f39 := (Fw32.other W36 (Or.inr (slot_ne (Or.inr (hw _ (List.mem_of_getElem? (i := 41) rfl))) (Or.inr (hw _ (List.mem_of_getElem? (i := 43) rfl))) (by decide) (t := (.array .byte)) (t' := .byte) (by decide) (by decide))))
  refine ⟨_, _, pre0 _ ?_, hrun, hended, _, _, rfl, ?_, ⟨_, rfl⟩, hW, hsame.mono (by decide) (by decide)⟩
  · show Steps p.tables e below (s₁.setTop (mkF m 0 #[.val (.ref a0), .val (.ref a1), .val (.int 0)] [])) _
    refine XS.aloadN X0.here hx rfl (hb hby d7_0) rfl rfl ?_
    show Steps p.tables e below (s₁.setTop (mkF m 1 #[.val (.ref a0), .val (.ref a1), .val (.int 0)] [(.ref a0)])) _
    refine st31 _ ?_
    refine XS.aloadN X31.here hx rfl (hb hby d7_4) rfl rfl ?_
    show Steps p.tables e below (T31.setTop (mkF m 5 #[.val (.ref a0), .val (.ref a1), .val (.int 0)] [(.ref a0)])) _
    refine XS.aloadN X31.here hx rfl (hb hby d7_5) rfl rfl ?_
    show Steps p.tables e below (T31.setTop (mkF m 6 #[.val (.ref a0), .val (.ref a1), .val (.int 0)] [(.ref a1), (.ref a0)])) _
    refine st32 _ ?_
    refine XS.aloadN X32.here hx rfl (hb hby d7_9) rfl rfl ?_
    refine XS.iloadN X32.here hx rfl (hb hby d7_10) rfl ?_
    show Steps p.tables e below (T32.setTop (mkF m 11 #[.val (.ref a0), .val (.ref a1), .val (.int 0)] [(.int 0), (.ref a0)])) _
    refine st36 _ ?_
    show Steps p.tables e below (T36.setTop (mkF m 14 #[.val (.ref a0), .val (.ref a1), .val (.int 0)] [])) _
    exact X36.returnOut hx Bd.returns (hb hby d7_14) hrL
  · show Q_rm7 _ _ _ _ _ _  T36.heap _
    rw [e36]
    exact ⟨rfl, N36, K37, f38, f39, Fw36⟩
theorem d4_0 : decode jdk_42_method_139_code 0 = .ok (.getstatic 38, 3) := by decide +kernel
theorem d4_3 : decode jdk_42_method_139_code 3 = .ok (.ifCond .eq 23, 3) := by decide +kernel
theorem d4_6 : decode jdk_42_method_139_code 6 = .ok (.iload_n 0, 1) := by decide +kernel
theorem d4_7 : decode jdk_42_method_139_code 7 = .ok (.invokestatic 1015, 3) := by decide +kernel
theorem pd_3 : parseMethodDescriptor "(C)Z" = some ⟨[.char], some .boolean⟩ := by decide +kernel
theorem d4_10 : decode jdk_42_method_139_code 10 = .ok (.ifCond .eq 16, 3) := by decide +kernel
theorem d4_13 : decode jdk_42_method_139_code 13 = .ok (.new 10, 3) := by decide +kernel
theorem d4_16 : decode jdk_42_method_139_code 16 = .ok (.dup, 1) := by decide +kernel
theorem d4_17 : decode jdk_42_method_139_code 17 = .ok (.iload_n 0, 1) := by decide +kernel
theorem d4_18 : decode jdk_42_method_139_code 18 = .ok (.invokestatic 1018, 3) := by decide +kernel
theorem pd_4 : parseMethodDescriptor "(C)[B" = some ⟨[.char], some (.array .byte)⟩ := by decide +kernel
theorem d4_21 : decode jdk_42_method_139_code 21 = .ok (.iconst 0, 1) := by decide +kernel
theorem d4_22 : decode jdk_42_method_139_code 22 = .ok (.invokespecial 209, 3) := by decide +kernel
theorem pd_5 : parseMethodDescriptor "([BB)V" = some ⟨[(.array .byte), .byte], none⟩ := by decide +kernel
theorem d4_25 : decode jdk_42_method_139_code 25 = .ok (.areturn, 1) := by decide +kernel
theorem ef_rm4 (m : MethodId) (i0 : Int32) : entryFrame m #[(.int i0)] 1 = mkF m 0 #[.val (.int i0)] [] := by first | (simp [entryFrame, mkF, argsToLocals, Value.category]; done) | rfl
def Q_rm4 (Z : State) (i0 : Int32) (cs : Int32) (h0 : Heap) (n0 : Nat) (v : Option Value) (h : Heap) (L : List Loc) : Prop := ∃ b : Addr, ∃ vb : Addr, ∃ kb : ClassId, v = some (.ref b) ∧ Fr n0 L ∧ Keep h0 h [] ∧ h0.size ≤ b ∧ h0.size ≤ vb ∧ b ≠ vb ∧ Exa Z h b "java/lang/String" ∧ Fld Z h b "java/lang/String" "value" "[B" (.ref vb) ∧ Fld Z h b "java/lang/String" "coder" "B" (.int 0) ∧ Arv Z h vb kb .byte (1 : Int32) [(.int (i0.toInt8.toInt32))] (.int 0)
set_option maxRecDepth 65536 in
set_option maxHeartbeats 40000000 in
theorem rm4 (l : Launch) (Z : State) (av0 : Array Value) (hw : ∀ d ∈ tables_1, d.before av0 Z = true) (ws : List Jvm.Cond) (i0 : Int32) (cs : Int32) (h0 : Heap) (n0 : Nat) (Z0 : n0 ≤ h0.size) (p0_O : Old Z n0 h0) (p1_S : Sta Z Z.heap "java/lang/String" "COMPACT_STRINGS" "Z" (.int cs)) (hcs : ¬ (cs = (0 : Int32))) (hle : ¬ ((255 : Int32) < i0)) :
    MetFree l (⟨"java/lang/String", "valueOf", "(C)Ljava/lang/String;"⟩ : MethodName) (head1 (Jvm.Cond.code (⟨"java/lang/String", "valueOf", "(C)Ljava/lang/String;"⟩ : MethodName) jdk_42_method_139_code 1 (some (.object "java/lang/String")) :: ws) ({ frames := 2, cells := 2, slots := 5, locals := 27 } : Room)) (fun a U => a = #[(.int i0)] ∧ Z.Warmed39 U.vm ∧ U.heap = h0) (fun _ _ _ _ _ => True) (fun _ U o U' => ∃ v L, o = .returned v ∧ Q_rm4 Z i0 cs h0 n0 v U'.heap L ∧ FrameEnd U o U' L ({ frames := 2, cells := 2, slots := 5, locals := 27 } : Room).cells ({ frames := 2, cells := 2, slots := 5, locals := 27 } : Room).slots) := by
  refine MetFree.of_bodySF (plainFor_of_name pn_java_lang_String) hisR ?_
  intro p e s m args below meth c s₁ Bd hml0 hP hK
  obtain ⟨rfl, hZ, hh⟩ := hP
  have hx := Bd.exec
  have hby := Bd.bytes
  have hml : c.maxLocals = 1 := hml0
  have hown : s.vm.findClass "java/lang/String" = some m.cls := findClass_of_methodNamed Bd.named
  have hnm := (name_of_methodNamed Bd.named Bd.method).1
  have X0 : Stand p l e ({ frames := 2, cells := 2, slots := 5, locals := 27 } : Room) s m #[(.int i0)] below meth c s₁ [] 0 0 := Stand.of_body Bd
  have e0 : s₁.heap = h0 := by rw [← hh, Bd.state]; rfl
  have N0 := Fr.nil n0
  have pre0 : ∀ tz_, Steps p.tables e below (s₁.setTop (mkF m 0 #[.val (.int i0)] [])) tz_ → Steps p.tables e below (s₁.setTop (entryFrame m #[(.int i0)] 1)) tz_ := fun tz_ kz_ => castTop (ef_rm4 m i0) kz_
  have K0 : Keep h0 h0 [] := Keep.refl h0 []
  obtain ⟨T31, X31, e31, st31⟩ := getS2 X0 hx hZ hown (host := "") (Or.inl (hw _ (List.mem_of_getElem? (i := 24) rfl))) Via.refl e0 (p1_S.ext p0_O.2) (g := (mkF m 0 #[.val (.int i0)] [])) rfl (hb hby d4_0)
  -- pc 7: StringLatin1.canEncode
  obtain ⟨_, _, ⟨T32, L32, k32, n32⟩, -, X32, ⟨Lc32, hQ32, l32, y32, z32⟩, st32⟩ := Jvm.LawKit.callS X31 hx (y := (⟨"java/lang/StringLatin1", "canEncode", "(C)Z"⟩ : MethodName)) hown (mvT hZ (hw _ (List.mem_of_getElem? (i := 25) rfl))) (mvT hZ (hw _ (List.mem_of_getElem? (i := 26) rfl))) (mvT hZ (hw _ (List.mem_of_getElem? (i := 27) rfl))) (mvT hZ (hw _ (List.mem_of_getElem? (i := 28) rfl))) (by decide) (backOf (W := 0) (rm5 l Z av0 hw [] i0 h0 n0 (own_le p0_O) (hle : ¬ ((255 : Int32) < i0))) hZ (hw _ (List.mem_of_getElem? (i := 28) rfl)) (hw _ (List.mem_of_getElem? (i := 27) rfl)) (by decide) (by decide)) (g := (mkF m 7 #[.val (.int i0)] [(.int i0)])) rfl (by rw [hml]; rfl) (argsL := [(.int i0)]) (rest := []) (lenOf pd_3 rfl) rfl (by show 2 * 0 + _ ≤ _; exact Nat.le_of_eq rfl) (hb hby d4_7) (fun vmx hWx => ⟨rfl, e31, (by decide : 0 + 0 ≤ _), (by decide : 0 + 0 ≤ _)⟩)
  dsimp only [Pt.U, Pt.locs, Pt.cells, Pt.slots] at X32 l32 y32 z32 st32 hQ32
  subst l32 y32 z32
  obtain ⟨rv32, Nq32, Kq32⟩ := hQ32
  subst rv32
  have N32 := Fr.app N0 Nq32
  obtain ⟨T33, h33, X33, e33, E33, A33, D33, -, st33⟩ := newO X32 hx hZ hown (hw _ (List.mem_of_getElem? (i := 29) rfl)) (hw _ (List.mem_of_getElem? (i := 30) rfl)) (hw _ (List.mem_of_getElem? (i := 22) rfl)) Kq32 (g := (mkF m 13 #[.val (.int i0)] [])) rfl (hb hby d4_13) (by decide) (by decide)
  obtain ⟨b33, q33⟩ : ∃ z, z = h0.size := ⟨_, rfl⟩
  rw [← q33] at A33 D33 st33
  have g_b33 : n0 ≤ b33 := Nat.le_trans (own_le p0_O) (Nat.le_of_eq q33.symm)
  have sz_b33 : h0.size ≤ b33 := Nat.le_trans K0.1 (Nat.le_of_eq q33.symm)
  have K34 := K0.ext E33
  have O34 := p0_O.ext E33
  have F33_value : Fld Z h33 b33 "java/lang/String" "value" "[B" .null := D33 (Or.inr (hw _ (List.mem_of_getElem? (i := 41) rfl))) (ty := (.array .byte)) (by decide)
  have F33_coder : Fld Z h33 b33 "java/lang/String" "coder" "B" (.int 0) := D33 (Or.inr (hw _ (List.mem_of_getElem? (i := 43) rfl))) (ty := .byte) (by decide)
  -- pc 18: StringLatin1.toBytes
  obtain ⟨_, _, ⟨T35, L35, k35, n35⟩, -, X35, ⟨Lc35, hQ35, l35, y35, z35⟩, st35⟩ := Jvm.LawKit.callS X33 hx (y := (⟨"java/lang/StringLatin1", "toBytes", "(C)[B"⟩ : MethodName)) hown (mvT hZ (hw _ (List.mem_of_getElem? (i := 31) rfl))) (mvT hZ (hw _ (List.mem_of_getElem? (i := 32) rfl))) (mvT hZ (hw _ (List.mem_of_getElem? (i := 27) rfl))) (mvT hZ (hw _ (List.mem_of_getElem? (i := 33) rfl))) (by decide) (backOf (W := 2) (rm6 l Z av0 hw [] i0 h33 n0 (own_le O34) ) hZ (hw _ (List.mem_of_getElem? (i := 33) rfl)) (hw _ (List.mem_of_getElem? (i := 27) rfl)) (by decide) (by decide)) (g := (mkF m 18 #[.val (.int i0)] [(.int i0), (.ref b33), (.ref b33)])) rfl (by rw [hml]; rfl) (argsL := [(.int i0)]) (rest := [(.ref b33), (.ref b33)]) (lenOf pd_4 rfl) rfl (by show 2 * 0 + _ ≤ _; exact Nat.le_of_eq rfl) (hb hby d4_18) (fun vmx hWx => ⟨rfl, e33, (by decide : 1 + 1 ≤ _), (by decide : 4 + 1 ≤ _)⟩)
  dsimp only [Pt.U, Pt.locs, Pt.cells, Pt.slots] at X35 l35 y35 z35 st35 hQ35
  subst l35 y35 z35
  obtain ⟨b_35, kb_35, rv35, Nq35, Kq35, u35_0, u35_1⟩ := hQ35
  subst rv35
  have N35 := Fr.app N32 Nq35
  have g_b_35 : n0 ≤ b_35 := Nat.le_trans (own_le O34) u35_0
  have sz_b_35 : h0.size ≤ b_35 := Nat.le_trans K34.1 u35_0
  have K36 := K34.trans Kq35 all0
  have O36 := O34.keep Kq35 all0
  have f37 := (A33.keep Kq35)
  have f38 := (F33_value.keep Kq35 nin0)
  have f39 := (F33_coder.keep Kq35 nin0)
  -- pc 22: String.init
  obtain ⟨_, _, ⟨T40, L40, k40, n40⟩, -, X40, ⟨Lc40, hQ40, l40, y40, z40⟩, st40⟩ := X35.specialBack hx (y := (⟨"java/lang/String", "<init>", "([BB)V"⟩ : MethodName)) rfl hown (mvT hZ (hw _ (List.mem_of_getElem? (i := 35) rfl))) (mvT hZ (hw _ (List.mem_of_getElem? (i := 36) rfl))) (mvT hZ (hw _ (List.mem_of_getElem? (i := 38) rfl))) (by decide) (backOf (W := 1) (rm7 l Z av0 hw [] b33 b_35 T35.heap n0 (own_le O36) f37 f38 f39 g_b33) hZ (hw _ (List.mem_of_getElem? (i := 38) rfl)) (hw _ (List.mem_of_getElem? (i := 22) rfl)) (by decide) (by decide)) (g := (mkF m 22 #[.val (.int i0)] [(.int 0), (.ref b_35), (.ref b33), (.ref b33)])) rfl (by rw [hml]; rfl) (Steps.refl _) (a := b33) (argsL := [(.ref b_35), (.int 0)]) (rest := [(.ref b33)]) (lenOf pd_5 rfl) rfl (by show 2 * 0 + _ ≤ _; exact Nat.le_of_eq rfl) (hb hby d4_22) (fun vmx hWx => ⟨rfl, rfl, (by decide : 2 + 0 ≤ _), (by decide : 5 + 0 ≤ _)⟩)
  dsimp only [Pt.U, Pt.locs, Pt.cells, Pt.slots] at X40 l40 y40 z40 st40 hQ40
  subst l40 y40 z40
  obtain ⟨rv40, Nq40, Kq40, u40_0, u40_1, u40_2⟩ := hQ40
  subst rv40
  have N40 := Fr.app N35 Nq40
  have K41 := K36.trans Kq40 (allS (Or.inr sz_b33) all0)
  have O41 := O36.keep Kq40 (allS g_b33 all0)
  obtain ⟨fs, hrL, hrun, hended, hW, hsame⟩ := X40.leave (v := some (.ref b33)) (fun h => by rw [Bd.returns] at h; cases h)
  have ne42 : b33 ≠ b_35 := (Nat.ne_of_lt (Nat.lt_of_lt_of_le A33.lt u35_0))
  have f43 := (u35_1.keep Kq40 (ninS (Ne.symm ne42) nin0))
  refine ⟨_, _, pre0 _ ?_, hrun, hended, _, _, rfl, ?_, ⟨_, rfl⟩, hW, hsame.mono (by decide) (by decide)⟩
  · show Steps p.tables e below (s₁.setTop (mkF m 0 #[.val (.int i0)] [])) _
    refine st31 _ ?_
    show Steps p.tables e below (T31.setTop (mkF m 3 #[.val (.int i0)] [(.int cs)])) _
    refine XS.ifNo X31.here hx rfl (hb hby d4_3) rfl ((if0 _ _).trans (feq hcs).1) ?_
    refine XS.iloadN X31.here hx rfl (hb hby d4_6) rfl ?_
    show Steps p.tables e below (T31.setTop (mkF m 7 #[.val (.int i0)] [(.int i0)])) _
    refine st32 _ ?_
    show Steps p.tables e below (T32.setTop (mkF m 10 #[.val (.int i0)] [(.int 1)])) _
    refine XS.ifNo X32.here hx rfl (hb hby d4_10) rfl ((if0 _ _).trans (feq (by decide : ¬ ((1 : Int32) = (0 : Int32)))).1) ?_
    show Steps p.tables e below (T32.setTop (mkF m 13 #[.val (.int i0)] [])) _
    refine st33 _ ?_
    refine XS.dup X33.here hx rfl (hb hby d4_16) rfl rfl ?_
    show Steps p.tables e below (T33.setTop (mkF m 17 #[.val (.int i0)] [(.ref b33), (.ref b33)])) _
    refine XS.iloadN X33.here hx rfl (hb hby d4_17) rfl ?_
    show Steps p.tables e below (T33.setTop (mkF m 18 #[.val (.int i0)] [(.int i0), (.ref b33), (.ref b33)])) _
    refine st35 _ ?_
    refine XS.iconst X35.here hx rfl (hb hby d4_21) ?_
    show Steps p.tables e below (T35.setTop (mkF m 22 #[.val (.int i0)] [(.int 0), (.ref b_35), (.ref b33), (.ref b33)])) _
    refine st40.trans ?_
    show Steps p.tables e below (T40.setTop (mkF m 25 #[.val (.int i0)] [(.ref b33)])) _
    exact retOut X40 hx Bd.returns rfl (Or.inr (Or.inr (Or.inr (Or.inr ⟨rfl, rfl, rfl⟩)))) (hb hby d4_25) hrL
  · show Q_rm4 _ _ _ _ _ _  T40.heap _
    exact ⟨b33, b_35, kb_35, rfl, N40, K41, sz_b33, sz_b_35, ne42, u40_0, u40_1, u40_2, f43⟩
theorem d10_0 : decode jdk_33_method_22_code 0 = .ok (.iload_n 0, 1) := by decide +kernel
theorem d10_1 : decode jdk_33_method_22_code 1 = .ok (.bipush (-128), 2) := by decide +kernel
theorem d10_3 : decode jdk_33_method_22_code 3 = .ok (.if_icmp .lt 20, 3) := by decide +kernel
theorem d10_23 : decode jdk_33_method_22_code 23 = .ok (.new 1, 3) := by decide +kernel
theorem d10_26 : decode jdk_33_method_22_code 26 = .ok (.dup, 1) := by decide +kernel
theorem d10_27 : decode jdk_33_method_22_code 27 = .ok (.iload_n 0, 1) := by decide +kernel
theorem d10_28 : decode jdk_33_method_22_code 28 = .ok (.invokespecial 199, 3) := by decide +kernel
theorem pd_0 : parseMethodDescriptor "(I)V" = some ⟨[.int], none⟩ := by decide +kernel
theorem d10_31 : decode jdk_33_method_22_code 31 = .ok (.areturn, 1) := by decide +kernel
theorem d10_6 : decode jdk_33_method_22_code 6 = .ok (.iload_n 0, 1) := by decide +kernel
theorem d10_7 : decode jdk_33_method_22_code 7 = .ok (.getstatic 191, 3) := by decide +kernel
theorem d10_10 : decode jdk_33_method_22_code 10 = .ok (.if_icmp .gt 13, 3) := by decide +kernel
theorem d10_13 : decode jdk_33_method_22_code 13 = .ok (.getstatic 195, 3) := by decide +kernel
theorem d10_16 : decode jdk_33_method_22_code 16 = .ok (.iload_n 0, 1) := by decide +kernel
theorem d10_17 : decode jdk_33_method_22_code 17 = .ok (.sipush 128, 3) := by decide +kernel
theorem d10_20 : decode jdk_33_method_22_code 20 = .ok (.iadd, 1) := by decide +kernel
theorem d10_21 : decode jdk_33_method_22_code 21 = .ok (.aaload, 1) := by decide +kernel
theorem d10_22 : decode jdk_33_method_22_code 22 = .ok (.areturn, 1) := by decide +kernel
theorem ef_rm10 (m : MethodId) (i0 : Int32) : entryFrame m #[(.int i0)] 1 = mkF m 0 #[.val (.int i0)] [] := by first | (simp [entryFrame, mkF, argsToLocals, Value.category]; done) | rfl
def Q_rm10 (Z : State) (i0 : Int32) (ca : Addr) (cl : Cell) (h0 : Heap) (n0 : Nat) (v : Option Value) (h : Heap) (L : List Loc) : Prop := ∃ r : Addr, v = some (.ref r) ∧ Fr n0 L ∧ Keep h0 h [] ∧ Exa Z h r "java/lang/Integer"
set_option maxRecDepth 65536 in
set_option maxHeartbeats 40000000 in
theorem rm10 (l : Launch) (Z : State) (av0 : Array Value) (hw : ∀ d ∈ tables_1, d.before av0 Z = true) (ws : List Jvm.Cond) (i0 : Int32) (ca : Addr) (cl : Cell) (h0 : Heap) (n0 : Nat) (Z0 : n0 ≤ h0.size) (p0_O : Old Z n0 h0) (p1_S : Sta Z Z.heap "java/lang/Integer$IntegerCache" "high" "I" (.int 127)) (p2_S : Sta Z Z.heap "java/lang/Integer$IntegerCache" "cache" "[Ljava/lang/Integer;" (.ref ca)) (hbx : Bxs Z ca cl "java/lang/Integer" "I" (256 : Int32) (fun j => Value.int (j - (128 : Int32)))) :
    MetFree l (⟨"java/lang/Integer", "valueOf", "(I)Ljava/lang/Integer;"⟩ : MethodName) (head1 (Jvm.Cond.code (⟨"java/lang/Integer", "valueOf", "(I)Ljava/lang/Integer;"⟩ : MethodName) jdk_33_method_22_code 1 (some (.object "java/lang/Integer")) :: ws) ({ frames := 3, cells := 1, slots := 1, locals := 38 } : Room)) (fun a U => a = #[(.int i0)] ∧ Z.Warmed39 U.vm ∧ U.heap = h0) (fun _ _ _ _ _ => True) (fun _ U o U' => ∃ v L, o = .returned v ∧ Q_rm10 Z i0 ca cl h0 n0 v U'.heap L ∧ FrameEnd U o U' L ({ frames := 3, cells := 1, slots := 1, locals := 38 } : Room).cells ({ frames := 3, cells := 1, slots := 1, locals := 38 } : Room).slots) := by
  refine MetFree.of_bodySF (plainFor_of_name pn_java_lang_Integer) hisR ?_
  intro p e s m args below meth c s₁ Bd hml0 hP hK
  obtain ⟨rfl, hZ, hh⟩ := hP
  have hx := Bd.exec
  have hby := Bd.bytes
  have hml : c.maxLocals = 1 := hml0
  have hown : s.vm.findClass "java/lang/Integer" = some m.cls := findClass_of_methodNamed Bd.named
  have hnm := (name_of_methodNamed Bd.named Bd.method).1
  have X0 : Stand p l e ({ frames := 3, cells := 1, slots := 1, locals := 38 } : Room) s m #[(.int i0)] below meth c s₁ [] 0 0 := Stand.of_body Bd
  have e0 : s₁.heap = h0 := by rw [← hh, Bd.state]; rfl
  have N0 := Fr.nil n0
  have pre0 : ∀ tz_, Steps p.tables e below (s₁.setTop (mkF m 0 #[.val (.int i0)] [])) tz_ → Steps p.tables e below (s₁.setTop (entryFrame m #[(.int i0)] 1)) tz_ := fun tz_ kz_ => castTop (ef_rm10 m i0) kz_
  have K0 : Keep h0 h0 [] := Keep.refl h0 []
  have pre31 : ∀ tz_, Steps p.tables e below (s₁.setTop (mkF m 3 #[.val (.int i0)] [(.int (-128)), (.int i0)])) tz_ → Steps p.tables e below (s₁.setTop (entryFrame m #[(.int i0)] 1)) tz_ := fun tz_ kk => pre0 tz_ (by
    show Steps p.tables e below (s₁.setTop (mkF m 0 #[.val (.int i0)] [])) _
    refine XS.iloadN X0.here hx rfl (hb hby d10_0) rfl ?_
    refine XS.bipush X0.here hx rfl (hb hby d10_1) ?_
    exact kk)
  by_cases hc32 : i0 < (-128 : Int32)
  · skip
    obtain ⟨T33, h33, X33, e33, E33, A33, D33, -, st33⟩ := newO X0 hx hZ hown (hw _ (List.mem_of_getElem? (i := 69) rfl)) (hw _ (List.mem_of_getElem? (i := 70) rfl)) (hw _ (List.mem_of_getElem? (i := 61) rfl)) e0 (g := (mkF m 23 #[.val (.int i0)] [])) rfl (hb hby d10_23) (by decide) (by decide)
    obtain ⟨b33, q33⟩ : ∃ z, z = h0.size := ⟨_, rfl⟩
    rw [← q33] at A33 D33 st33
    have g_b33 : n0 ≤ b33 := Nat.le_trans (own_le p0_O) (Nat.le_of_eq q33.symm)
    have sz_b33 : h0.size ≤ b33 := Nat.le_trans K0.1 (Nat.le_of_eq q33.symm)
    have K34 := K0.ext E33
    have O34 := p0_O.ext E33
    have F33_value : Fld Z h33 b33 "java/lang/Integer" "value" "I" (.int 0) := D33 (Or.inr (hw _ (List.mem_of_getElem? (i := 83) rfl))) (ty := .int) (by decide)
    -- pc 28: Integer.init
    obtain ⟨_, _, ⟨T35, L35, k35, n35⟩, -, X35, ⟨Lc35, hQ35, l35, y35, z35⟩, st35⟩ := X33.specialBack hx (y := (⟨"java/lang/Integer", "<init>", "(I)V"⟩ : MethodName)) rfl hown (mvT hZ (hw _ (List.mem_of_getElem? (i := 71) rfl))) (mvT hZ (hw _ (List.mem_of_getElem? (i := 72) rfl))) (mvT hZ (hw _ (List.mem_of_getElem? (i := 74) rfl))) (by decide) (backOf (W := 1) (rm11 l Z av0 hw [] b33 i0 h33 n0 (own_le O34) A33 F33_value g_b33) hZ (hw _ (List.mem_of_getElem? (i := 74) rfl)) (hw _ (List.mem_of_getElem? (i := 61) rfl)) (by decide) (by decide)) (g := (mkF m 28 #[.val (.int i0)] [(.int i0), (.ref b33), (.ref b33)])) rfl (by rw [hml]; rfl) (Steps.refl _) (a := b33) (argsL := [(.int i0)]) (rest := [(.ref b33)]) (lenOf pd_0 rfl) rfl (by show 2 * 0 + _ ≤ _; exact Nat.le_of_eq rfl) (hb hby d10_28) (fun vmx hWx => ⟨rfl, e33, (by decide : 1 + 0 ≤ _), (by decide : 1 + 0 ≤ _)⟩)
    dsimp only [Pt.U, Pt.locs, Pt.cells, Pt.slots] at X35 l35 y35 z35 st35 hQ35
    subst l35 y35 z35
    obtain ⟨rv35, Nq35, Kq35, u35_0, u35_1⟩ := hQ35
    subst rv35
    have N35 := Fr.app N0 Nq35
    have K36 := K34.trans Kq35 (allS (Or.inr sz_b33) all0)
    have O36 := O34.keep Kq35 (allS g_b33 all0)
    obtain ⟨fs, hrL, hrun, hended, hW, hsame⟩ := X35.leave (v := some (.ref b33)) (fun h => by rw [Bd.returns] at h; cases h)
    refine ⟨_, _, pre31 _ ?_, hrun, hended, _, _, rfl, ?_, ⟨_, rfl⟩, hW, hsame.mono (by decide) (by decide)⟩
    · show Steps p.tables e below (s₁.setTop (mkF m 3 #[.val (.int i0)] [(.int (-128)), (.int i0)])) _
      refine XS.icmpYes X0.here hx rfl (pc0 := 3) (pc' := 23) rfl (hb hby d10_3) rfl (tlt hc32).1 (by decide) (by decide) ?_
      show Steps p.tables e below (s₁.setTop (mkF m 23 #[.val (.int i0)] [])) _
      refine st33 _ ?_
      refine XS.dup X33.here hx rfl (hb hby d10_26) rfl rfl ?_
      refine XS.iloadN X33.here hx rfl (hb hby d10_27) rfl ?_
      show Steps p.tables e below (T33.setTop (mkF m 28 #[.val (.int i0)] [(.int i0), (.ref b33), (.ref b33)])) _
      refine st35.trans ?_
      show Steps p.tables e below (T35.setTop (mkF m 31 #[.val (.int i0)] [(.ref b33)])) _
      exact retOut X35 hx Bd.returns rfl (Or.inr (Or.inr (Or.inr (Or.inr ⟨rfl, rfl, rfl⟩)))) (hb hby d10_31) hrL
    · show Q_rm10 _ _ _ _ _ _ _  T35.heap _
      exact ⟨b33, rfl, N35, K36, u35_0⟩
  · skip
    obtain ⟨T37, X37, e37, st37⟩ := getS2 X0 hx hZ hown (host := "") (Or.inl (hw _ (List.mem_of_getElem? (i := 63) rfl))) Via.refl e0 (p1_S.ext p0_O.2) (g := (mkF m 7 #[.val (.int i0)] [(.int i0)])) rfl (hb hby d10_7)
    have pre38 : ∀ tz_, Steps p.tables e below (T37.setTop (mkF m 10 #[.val (.int i0)] [(.int 127), (.int i0)])) tz_ → Steps p.tables e below (s₁.setTop (entryFrame m #[(.int i0)] 1)) tz_ := fun tz_ kk => pre31 tz_ (by
      show Steps p.tables e below (s₁.setTop (mkF m 3 #[.val (.int i0)] [(.int (-128)), (.int i0)])) _
      refine XS.icmpNo X0.here hx rfl (hb hby d10_3) rfl (flt hc32).1 ?_
      refine XS.iloadN X0.here hx rfl (hb hby d10_6) rfl ?_
      show Steps p.tables e below (s₁.setTop (mkF m 7 #[.val (.int i0)] [(.int i0)])) _
      refine st37 _ ?_
      exact kk)
    by_cases hc39 : (127 : Int32) < i0
    · skip
      obtain ⟨T40, h40, X40, e40, E40, A40, D40, -, st40⟩ := newO X37 hx hZ hown (hw _ (List.mem_of_getElem? (i := 69) rfl)) (hw _ (List.mem_of_getElem? (i := 70) rfl)) (hw _ (List.mem_of_getElem? (i := 61) rfl)) e37 (g := (mkF m 23 #[.val (.int i0)] [])) rfl (hb hby d10_23) (by decide) (by decide)
      obtain ⟨b40, q40⟩ : ∃ z, z = h0.size := ⟨_, rfl⟩
      rw [← q40] at A40 D40 st40
      have g_b40 : n0 ≤ b40 := Nat.le_trans (own_le p0_O) (Nat.le_of_eq q40.symm)
      have sz_b40 : h0.size ≤ b40 := Nat.le_trans K0.1 (Nat.le_of_eq q40.symm)
      have K41 := K0.ext E40
      have O41 := p0_O.ext E40
      have F40_value : Fld Z h40 b40 "java/lang/Integer" "value" "I" (.int 0) := D40 (Or.inr (hw _ (List.mem_of_getElem? (i := 83) rfl))) (ty := .int) (by decide)
      -- pc 28: Integer.init
      obtain ⟨_, _, ⟨T42, L42, k42, n42⟩, -, X42, ⟨Lc42, hQ42, l42, y42, z42⟩, st42⟩ := X40.specialBack hx (y := (⟨"java/lang/Integer", "<init>", "(I)V"⟩ : MethodName)) rfl hown (mvT hZ (hw _ (List.mem_of_getElem? (i := 71) rfl))) (mvT hZ (hw _ (List.mem_of_getElem? (i := 72) rfl))) (mvT hZ (hw _ (List.mem_of_getElem? (i := 74) rfl))) (by decide) (backOf (W := 1) (rm11 l Z av0 hw [] b40 i0 h40 n0 (own_le O41) A40 F40_value g_b40) hZ (hw _ (List.mem_of_getElem? (i := 74) rfl)) (hw _ (List.mem_of_getElem? (i := 61) rfl)) (by decide) (by decide)) (g := (mkF m 28 #[.val (.int i0)] [(.int i0), (.ref b40), (.ref b40)])) rfl (by rw [hml]; rfl) (Steps.refl _) (a := b40) (argsL := [(.int i0)]) (rest := [(.ref b40)]) (lenOf pd_0 rfl) rfl (by show 2 * 0 + _ ≤ _; exact Nat.le_of_eq rfl) (hb hby d10_28) (fun vmx hWx => ⟨rfl, e40, (by decide : 1 + 0 ≤ _), (by decide : 1 + 0 ≤ _)⟩)
      dsimp only [Pt.U, Pt.locs, Pt.cells, Pt.slots] at X42 l42 y42 z42 st42 hQ42
      subst l42 y42 z42
      obtain ⟨rv42, Nq42, Kq42, u42_0, u42_1⟩ := hQ42
      subst rv42
      have N42 := Fr.app N0 Nq42
      have K43 := K41.trans Kq42 (allS (Or.inr sz_b40) all0)
      have O43 := O41.keep Kq42 (allS g_b40 all0)
      obtain ⟨fs, hrL, hrun, hended, hW, hsame⟩ := X42.leave (v := some (.ref b40)) (fun h => by rw [Bd.returns] at h; cases h)
      refine ⟨_, _, pre38 _ ?_, hrun, hended, _, _, rfl, ?_, ⟨_, rfl⟩, hW, hsame.mono (by decide) (by decide)⟩
      · show Steps p.tables e below (T37.setTop (mkF m 10 #[.val (.int i0)] [(.int 127), (.int i0)])) _
        refine XS.icmpYes X37.here hx rfl (pc0 := 10) (pc' := 23) rfl (hb hby d10_10) rfl (tlt hc39).2.2.1 (by decide) (by decide) ?_
        show Steps p.tables e below (T37.setTop (mkF m 23 #[.val (.int i0)] [])) _
        refine st40 _ ?_
        refine XS.dup X40.here hx rfl (hb hby d10_26) rfl rfl ?_
        refine XS.iloadN X40.here hx rfl (hb hby d10_27) rfl ?_
        show Steps p.tables e below (T40.setTop (mkF m 28 #[.val (.int i0)] [(.int i0), (.ref b40), (.ref b40)])) _
        refine st42.trans ?_
        show Steps p.tables e below (T42.setTop (mkF m 31 #[.val (.int i0)] [(.ref b40)])) _
        exact retOut X42 hx Bd.returns rfl (Or.inr (Or.inr (Or.inr (Or.inr ⟨rfl, rfl, rfl⟩)))) (hb hby d10_31) hrL
      · show Q_rm10 _ _ _ _ _ _ _  T42.heap _
        exact ⟨b40, rfl, N42, K43, u42_0⟩
    · skip
      obtain ⟨T44, X44, e44, st44⟩ := getS2 X37 hx hZ hown (host := "") (Or.inl (hw _ (List.mem_of_getElem? (i := 65) rfl))) Via.refl e37 (p2_S.ext p0_O.2) (g := (mkF m 13 #[.val (.int i0)] [])) rfl (hb hby d10_13)
      obtain ⟨hj1, hj2⟩ := own_idx hc32 hc39
      have hin : ¬ ((i0 + (128 : Int32)) < 0 ∨ cl.slots.size ≤ ((i0 + (128 : Int32))).toNatClampNeg) := inb_of hbx.2.1 ⟨hj1, hj2⟩
      obtain ⟨rc, hat, Ec, -⟩ := hbx.2.2.2 _ hin
      have Ecn : Exa Z h0 rc "java/lang/Integer" := Ec.ext p0_O.2
      obtain ⟨fs, hrL, hrun, hended, hW, hsame⟩ := X44.leave (v := some (.ref rc)) (fun h => by rw [Bd.returns] at h; cases h)
      refine ⟨_, _, pre38 _ ?_, hrun, hended, _, _, rfl, ?_, ⟨_, rfl⟩, hW, hsame.mono (by decide) (by decide)⟩
      · show Steps p.tables e below (T37.setTop (mkF m 10 #[.val (.int i0)] [(.int 127), (.int i0)])) _
        refine XS.icmpNo X37.here hx rfl (hb hby d10_10) rfl (flt hc39).2.2.1 ?_
        show Steps p.tables e below (T37.setTop (mkF m 13 #[.val (.int i0)] [])) _
        refine st44 _ ?_
        refine XS.iloadN X44.here hx rfl (hb hby d10_16) rfl ?_
        refine XS.sipush X44.here hx rfl (hb hby d10_17) ?_
        show Steps p.tables e below (T44.setTop (mkF m 20 #[.val (.int i0)] [(.int 128), (.int i0), (.ref ca)])) _
        refine XS.iadd X44.here hx rfl (hb hby d10_20) rfl ?_
        show Steps p.tables e below (T44.setTop (mkF m 21 #[.val (.int i0)] [(.int (i0 + (128 : Int32))), (.ref ca)])) _
        refine X44.aaload hx (j := (i0 + (128 : Int32))) (v := .ref rc) (by rw [e44]; exact (hbx.1.ext p0_O.2).1) (State.isArrayOf_alike hZ.alike hbx.1.2.1) rfl hbx.1.2.2 hin hat (g := (mkF m 21 #[.val (.int i0)] [(.int (i0 + (128 : Int32))), (.ref ca)])) rfl rfl (hb hby d10_21) _ ?_
        show Steps p.tables e below (T44.setTop (mkF m 22 #[.val (.int i0)] [(.ref rc)])) _
        exact retOut X44 hx Bd.returns rfl (Or.inr (Or.inr (Or.inr (Or.inr ⟨rfl, rfl, rfl⟩)))) (hb hby d10_22) hrL
      · show Q_rm10 _ _ _ _ _ _ _  T44.heap _
        rw [e44]
        exact ⟨rc, rfl, N0, K0, Ecn⟩
theorem d9_0 : decode prog_28_method_2_code 0 = .ok (.aload_n 1, 1) := by decide +kernel
theorem d9_1 : decode prog_28_method_2_code 1 = .ok (.instanceof 8, 3) := by decide +kernel
theorem d9_4 : decode prog_28_method_2_code 4 = .ok (.ifCond .eq 23, 3) := by decide +kernel
theorem d9_7 : decode prog_28_method_2_code 7 = .ok (.aload_n 1, 1) := by decide +kernel
theorem d9_8 : decode prog_28_method_2_code 8 = .ok (.checkcast 8, 3) := by decide +kernel
theorem d9_11 : decode prog_28_method_2_code 11 = .ok (.astore_n 2, 1) := by decide +kernel
theorem d9_12 : decode prog_28_method_2_code 12 = .ok (.aload_n 2, 1) := by decide +kernel
theorem d9_13 : decode prog_28_method_2_code 13 = .ok (.getfield 7, 3) := by decide +kernel
theorem d9_16 : decode prog_28_method_2_code 16 = .ok (.aload_n 0, 1) := by decide +kernel
theorem d9_17 : decode prog_28_method_2_code 17 = .ok (.getfield 7, 3) := by decide +kernel
theorem d9_20 : decode prog_28_method_2_code 20 = .ok (.if_icmp .ne 7, 3) := by decide +kernel
theorem d9_23 : decode prog_28_method_2_code 23 = .ok (.iconst 1, 1) := by decide +kernel
theorem d9_24 : decode prog_28_method_2_code 24 = .ok (.goto 4, 3) := by decide +kernel
theorem d9_28 : decode prog_28_method_2_code 28 = .ok (.ireturn, 1) := by decide +kernel
theorem d9_27 : decode prog_28_method_2_code 27 = .ok (.iconst 0, 1) := by decide +kernel
theorem ef_eq_same (m : MethodId) (a0 : Addr) (a1 : Addr) : entryFrame m #[(.ref a0), (.ref a1)] 3 = mkF m 0 #[.val (.ref a0), .val (.ref a1), .unset] [] := by first | (simp [entryFrame, mkF, argsToLocals, Value.category]; done) | rfl
def Q_eq_same (Z : State) (a0 : Addr) (a1 : Addr) (pp : Int32) (qq : Int32) (r : Int32) (h0 : Heap) (n0 : Nat) (v : Option Value) (h : Heap) (L : List Loc) : Prop := v = some (.int r) ∧ Fr n0 L ∧ h = h0
set_option maxRecDepth 65536 in
set_option maxHeartbeats 40000000 in
theorem eq_same (l : Launch) (Z : State) (av0 : Array Value) (hw : ∀ d ∈ tables_1, d.before av0 Z = true) (ws : List Jvm.Cond) (a0 : Addr) (a1 : Addr) (pp : Int32) (qq : Int32) (r : Int32) (h0 : Heap) (n0 : Nat) (Z0 : n0 ≤ h0.size) (p0_F : Fld Z h0 a0 "com/example/locktop/locktop/snapshot/Blocker$Backend" "pid" "I" (.int pp)) (p1_E : Exa Z h0 a1 "com/example/locktop/locktop/snapshot/Blocker$Backend") (p2_F : Fld Z h0 a1 "com/example/locktop/locktop/snapshot/Blocker$Backend" "pid" "I" (.int qq)) (hr : (qq = pp → r = (1 : Int32)) ∧ (¬ (qq = pp) → r = (0 : Int32))) :
    MetFree l (⟨"com/example/locktop/locktop/snapshot/Blocker$Backend", "equals", "(Ljava/lang/Object;)Z"⟩ : MethodName) (head1 (Jvm.Cond.code (⟨"com/example/locktop/locktop/snapshot/Blocker$Backend", "equals", "(Ljava/lang/Object;)Z"⟩ : MethodName) prog_28_method_2_code 3 (some .boolean) :: ws) ({ frames := 0, cells := 0, slots := 0, locals := 0 } : Room)) (fun a U => a = #[(.ref a0), (.ref a1)] ∧ Z.Warmed39 U.vm ∧ U.heap = h0) (fun _ _ _ _ _ => True) (fun _ U o U' => ∃ v L, o = .returned v ∧ Q_eq_same Z a0 a1 pp qq r h0 n0 v U'.heap L ∧ FrameEnd U o U' L ({ frames := 0, cells := 0, slots := 0, locals := 0 } : Room).cells ({ frames := 0, cells := 0, slots := 0, locals := 0 } : Room).slots) := by
  refine MetFree.of_bodySF (plainFor_of_name pn_com_example_locktop_locktop_snapshot_Blocker_Backend) hisR ?_
  intro p e s m args below meth c s₁ Bd hml0 hP hK
  obtain ⟨rfl, hZ, hh⟩ := hP
  have hx := Bd.exec
  have hby := Bd.bytes
  have hml : c.maxLocals = 3 := hml0
  have hown : s.vm.findClass "com/example/locktop/locktop/snapshot/Blocker$Backend" = some m.cls := findClass_of_methodNamed Bd.named
  have hnm := (name_of_methodNamed Bd.named Bd.method).1
  have X0 : Stand p l e ({ frames := 0, cells := 0, slots := 0, locals := 0 } : Room) s m #[(.ref a0), (.ref a1)] below meth c s₁ [] 0 0 := Stand.of_body Bd
  have e0 : s₁.heap = h0 := by rw [← hh, Bd.state]; rfl
  have N0 := Fr.nil n0
  have pre0 : ∀ tz_, Steps p.tables e below (s₁.setTop (mkF m 0 #[.val (.ref a0), .val (.ref a1), .unset] [])) tz_ → Steps p.tables e below (s₁.setTop (entryFrame m #[(.ref a0), (.ref a1)] 3)) tz_ := fun tz_ kz_ => castTop (ef_eq_same m a0 a1) kz_
  obtain ⟨T31, X31, e31, st31⟩ := instY X0 hx hZ hown (hw _ (List.mem_of_getElem? (i := 55) rfl)) e0 (Ins.self p1_E) (g := (mkF m 1 #[.val (.ref a0), .val (.ref a1), .unset] [(.ref a1)])) rfl rfl (hb hby d9_1)
  obtain ⟨T32, X32, e32, st32⟩ := castY X31 hx hZ hown (hw _ (List.mem_of_getElem? (i := 55) rfl)) e31 (Ins.self p1_E) (g := (mkF m 8 #[.val (.ref a0), .val (.ref a1), .unset] [(.ref a1)])) rfl rfl (hb hby d9_8)
  obtain ⟨T33, X33, e33, st33⟩ := getF X32 hx hZ hown (host := "") (Or.inl (hw _ (List.mem_of_getElem? (i := 14) rfl))) Via.refl e32 p2_F (g := (mkF m 13 #[.val (.ref a0), .val (.ref a1), .val (.ref a1)] [(.ref a1)])) rfl rfl (hb hby d9_13)
  obtain ⟨T34, X34, e34, st34⟩ := getF X33 hx hZ hown (host := "") (Or.inl (hw _ (List.mem_of_getElem? (i := 14) rfl))) Via.refl e33 p0_F (g := (mkF m 17 #[.val (.ref a0), .val (.ref a1), .val (.ref a1)] [(.ref a0), (.int qq)])) rfl rfl (hb hby d9_17)
  have pre35 : ∀ tz_, Steps p.tables e below (T34.setTop (mkF m 20 #[.val (.ref a0), .val (.ref a1), .val (.ref a1)] [(.int pp), (.int qq)])) tz_ → Steps p.tables e below (s₁.setTop (entryFrame m #[(.ref a0), (.ref a1)] 3)) tz_ := fun tz_ kk => pre0 tz_ (by
    show Steps p.tables e below (s₁.setTop (mkF m 0 #[.val (.ref a0), .val (.ref a1), .unset] [])) _
    refine XS.aloadN X0.here hx rfl (hb hby d9_0) rfl rfl ?_
    show Steps p.tables e below (s₁.setTop (mkF m 1 #[.val (.ref a0), .val (.ref a1), .unset] [(.ref a1)])) _
    refine st31 _ ?_
    show Steps p.tables e below (T31.setTop (mkF m 4 #[.val (.ref a0), .val (.ref a1), .unset] [(.int 1)])) _
    refine XS.ifNo X31.here hx rfl (hb hby d9_4) rfl ((if0 _ _).trans (feq (by decide : ¬ ((1 : Int32) = (0 : Int32)))).1) ?_
    show Steps p.tables e below (T31.setTop (mkF m 7 #[.val (.ref a0), .val (.ref a1), .unset] [])) _
    refine XS.aloadN X31.here hx rfl (hb hby d9_7) rfl rfl ?_
    show Steps p.tables e below (T31.setTop (mkF m 8 #[.val (.ref a0), .val (.ref a1), .unset] [(.ref a1)])) _
    refine st32 _ ?_
    refine XS.astoreN X32.here hx rfl (hb hby d9_11) rfl rfl (l' := #[.val (.ref a0), .val (.ref a1), .val (.ref a1)]) rfl ?_
    refine XS.aloadN X32.here hx rfl (hb hby d9_12) rfl rfl ?_
    show Steps p.tables e below (T32.setTop (mkF m 13 #[.val (.ref a0), .val (.ref a1), .val (.ref a1)] [(.ref a1)])) _
    refine st33 _ ?_
    refine XS.aloadN X33.here hx rfl (hb hby d9_16) rfl rfl ?_
    show Steps p.tables e below (T33.setTop (mkF m 17 #[.val (.ref a0), .val (.ref a1), .val (.ref a1)] [(.ref a0), (.int qq)])) _
    refine st34 _ ?_
    exact kk)
  by_cases hc36 : qq = pp
  · skip
    obtain ⟨fs, hrL, hrun, hended, hW, hsame⟩ := X34.leave (v := some (.int 1)) (fun h => by rw [Bd.returns] at h; cases h)
    refine ⟨_, _, pre35 _ ?_, hrun, hended, _, _, rfl, ?_, ⟨_, rfl⟩, hW, hsame.mono (by decide) (by decide)⟩
    · show Steps p.tables e below (T34.setTop (mkF m 20 #[.val (.ref a0), .val (.ref a1), .val (.ref a1)] [(.int pp), (.int qq)])) _
      refine XS.icmpNo X34.here hx rfl (hb hby d9_20) rfl (teq hc36).2 ?_
      show Steps p.tables e below (T34.setTop (mkF m 23 #[.val (.ref a0), .val (.ref a1), .val (.ref a1)] [])) _
      refine XS.iconst X34.here hx rfl (hb hby d9_23) ?_
      refine XS.goto X34.here hx rfl (pc0 := 24) (pc' := 28) rfl (hb hby d9_24) (by decide) (by decide) ?_
      show Steps p.tables e below (T34.setTop (mkF m 28 #[.val (.ref a0), .val (.ref a1), .val (.ref a1)] [(.int 1)])) _
      exact retN X34 hx (t := .boolean) Bd.returns (by simp) (hb hby d9_28) hrL
    · show Q_eq_same _ _ _ _ _ _ _ _ _  T34.heap _
      rw [e34]
      exact ⟨congrArg (fun z => some (Value.int z)) (hr.1 hc36).symm, N0, rfl⟩
  · skip
    obtain ⟨fs, hrL, hrun, hended, hW, hsame⟩ := X34.leave (v := some (.int 0)) (fun h => by rw [Bd.returns] at h; cases h)
    refine ⟨_, _, pre35 _ ?_, hrun, hended, _, _, rfl, ?_, ⟨_, rfl⟩, hW, hsame.mono (by decide) (by decide)⟩
    · show Steps p.tables e below (T34.setTop (mkF m 20 #[.val (.ref a0), .val (.ref a1), .val (.ref a1)] [(.int pp), (.int qq)])) _
      refine XS.icmpYes X34.here hx rfl (pc0 := 20) (pc' := 27) rfl (hb hby d9_20) rfl (feq hc36).2 (by decide) (by decide) ?_
      refine XS.iconst X34.here hx rfl (hb hby d9_27) ?_
      show Steps p.tables e below (T34.setTop (mkF m 28 #[.val (.ref a0), .val (.ref a1), .val (.ref a1)] [(.int 0)])) _
      exact retN X34 hx (t := .boolean) Bd.returns (by simp) (hb hby d9_28) hrL
    · show Q_eq_same _ _ _ _ _ _ _ _ _  T34.heap _
      rw [e34]
      exact ⟨congrArg (fun z => some (Value.int z)) (hr.2 hc36).symm, N0, rfl⟩
theorem ef_eq_prep (m : MethodId) (a0 : Addr) (a1 : Addr) : entryFrame m #[(.ref a0), (.ref a1)] 3 = mkF m 0 #[.val (.ref a0), .val (.ref a1), .unset] [] := by first | (simp [entryFrame, mkF, argsToLocals, Value.category]; done) | rfl
def Q_eq_prep (Z : State) (a0 : Addr) (a1 : Addr) (h0 : Heap) (n0 : Nat) (v : Option Value) (h : Heap) (L : List Loc) : Prop := v = some (.int 0) ∧ Fr n0 L ∧ h = h0
set_option maxRecDepth 65536 in
set_option maxHeartbeats 40000000 in
theorem eq_prep (l : Launch) (Z : State) (av0 : Array Value) (hw : ∀ d ∈ tables_1, d.before av0 Z = true) (ws : List Jvm.Cond) (a0 : Addr) (a1 : Addr) (h0 : Heap) (n0 : Nat) (Z0 : n0 ≤ h0.size) (p0_E : Exa Z h0 a1 "com/example/locktop/locktop/snapshot/Blocker$Prepared") :
    MetFree l (⟨"com/example/locktop/locktop/snapshot/Blocker$Backend", "equals", "(Ljava/lang/Object;)Z"⟩ : MethodName) (head1 (Jvm.Cond.code (⟨"com/example/locktop/locktop/snapshot/Blocker$Backend", "equals", "(Ljava/lang/Object;)Z"⟩ : MethodName) prog_28_method_2_code 3 (some .boolean) :: ws) ({ frames := 0, cells := 0, slots := 0, locals := 0 } : Room)) (fun a U => a = #[(.ref a0), (.ref a1)] ∧ Z.Warmed39 U.vm ∧ U.heap = h0) (fun _ _ _ _ _ => True) (fun _ U o U' => ∃ v L, o = .returned v ∧ Q_eq_prep Z a0 a1 h0 n0 v U'.heap L ∧ FrameEnd U o U' L ({ frames := 0, cells := 0, slots := 0, locals := 0 } : Room).cells ({ frames := 0, cells := 0, slots := 0, locals := 0 } : Room).slots) := by
  refine MetFree.of_bodySF (plainFor_of_name pn_com_example_locktop_locktop_snapshot_Blocker_Backend) hisR ?_
  intro p e s m args below meth c s₁ Bd hml0 hP hK
  obtain ⟨rfl, hZ, hh⟩ := hP
  have hx := Bd.exec
  have hby := Bd.bytes
  have hml : c.maxLocals = 3 := hml0
  have hown : s.vm.findClass "com/example/locktop/locktop/snapshot/Blocker$Backend" = some m.cls := findClass_of_methodNamed Bd.named
  have hnm := (name_of_methodNamed Bd.named Bd.method).1
  have X0 : Stand p l e ({ frames := 0, cells := 0, slots := 0, locals := 0 } : Room) s m #[(.ref a0), (.ref a1)] below meth c s₁ [] 0 0 := Stand.of_body Bd
  have e0 : s₁.heap = h0 := by rw [← hh, Bd.state]; rfl
  have N0 := Fr.nil n0
  have pre0 : ∀ tz_, Steps p.tables e below (s₁.setTop (mkF m 0 #[.val (.ref a0), .val (.ref a1), .unset] [])) tz_ → Steps p.tables e below (s₁.setTop (entryFrame m #[(.ref a0), (.ref a1)] 3)) tz_ := fun tz_ kz_ => castTop (ef_eq_prep m a0 a1) kz_
  obtain ⟨T31, X31, e31, st31⟩ := instNo X0 hx hZ hown (hw _ (List.mem_of_getElem? (i := 55) rfl)) e0 p0_E (own_no (hw _ (List.mem_of_getElem? (i := 56) rfl)) (hw _ (List.mem_of_getElem? (i := 1) rfl)) (NS.step (hw _ (List.mem_of_getElem? (i := 56) rfl)) (NS.step (hw _ (List.mem_of_getElem? (i := 57) rfl)) (own_root (hw _ (List.mem_of_getElem? (i := 58) rfl)) (hw _ (List.mem_of_getElem? (i := 1) rfl)) (by decide)) (by decide)) (by decide)) (by decide)) (g := (mkF m 1 #[.val (.ref a0), .val (.ref a1), .unset] [(.ref a1)])) rfl rfl (hb hby d9_1)
  obtain ⟨fs, hrL, hrun, hended, hW, hsame⟩ := X31.leave (v := some (.int 0)) (fun h => by rw [Bd.returns] at h; cases h)
  refine ⟨_, _, pre0 _ ?_, hrun, hended, _, _, rfl, ?_, ⟨_, rfl⟩, hW, hsame.mono (by decide) (by decide)⟩
  · show Steps p.tables e below (s₁.setTop (mkF m 0 #[.val (.ref a0), .val (.ref a1), .unset] [])) _
    refine XS.aloadN X0.here hx rfl (hb hby d9_0) rfl rfl ?_
    show Steps p.tables e below (s₁.setTop (mkF m 1 #[.val (.ref a0), .val (.ref a1), .unset] [(.ref a1)])) _
    refine st31 _ ?_
    show Steps p.tables e below (T31.setTop (mkF m 4 #[.val (.ref a0), .val (.ref a1), .unset] [(.int 0)])) _
    refine XS.ifYes X31.here hx rfl (pc0 := 4) (pc' := 27) rfl (hb hby d9_4) rfl ((if0 _ _).trans (teq (by decide : (0 : Int32) = (0 : Int32))).1) (by decide) (by decide) ?_
    show Steps p.tables e below (T31.setTop (mkF m 27 #[.val (.ref a0), .val (.ref a1), .unset] [])) _
    refine XS.iconst X31.here hx rfl (hb hby d9_27) ?_
    show Steps p.tables e below (T31.setTop (mkF m 28 #[.val (.ref a0), .val (.ref a1), .unset] [(.int 0)])) _
    exact retN X31 hx (t := .boolean) Bd.returns (by simp) (hb hby d9_28) hrL
  · show Q_eq_prep _ _ _ _ _ _  T31.heap _
    rw [e31]
    exact ⟨rfl, N0, rfl⟩
theorem ef_eq_int (m : MethodId) (a0 : Addr) (a1 : Addr) : entryFrame m #[(.ref a0), (.ref a1)] 3 = mkF m 0 #[.val (.ref a0), .val (.ref a1), .unset] [] := by first | (simp [entryFrame, mkF, argsToLocals, Value.category]; done) | rfl
def Q_eq_int (Z : State) (a0 : Addr) (a1 : Addr) (h0 : Heap) (n0 : Nat) (v : Option Value) (h : Heap) (L : List Loc) : Prop := v = some (.int 0) ∧ Fr n0 L ∧ h = h0
set_option maxRecDepth 65536 in
set_option maxHeartbeats 40000000 in
theorem eq_int (l : Launch) (Z : State) (av0 : Array Value) (hw : ∀ d ∈ tables_1, d.before av0 Z = true) (ws : List Jvm.Cond) (a0 : Addr) (a1 : Addr) (h0 : Heap) (n0 : Nat) (Z0 : n0 ≤ h0.size) (p0_E : Exa Z h0 a1 "java/lang/Integer") :
    MetFree l (⟨"com/example/locktop/locktop/snapshot/Blocker$Backend", "equals", "(Ljava/lang/Object;)Z"⟩ : MethodName) (head1 (Jvm.Cond.code (⟨"com/example/locktop/locktop/snapshot/Blocker$Backend", "equals", "(Ljava/lang/Object;)Z"⟩ : MethodName) prog_28_method_2_code 3 (some .boolean) :: ws) ({ frames := 0, cells := 0, slots := 0, locals := 0 } : Room)) (fun a U => a = #[(.ref a0), (.ref a1)] ∧ Z.Warmed39 U.vm ∧ U.heap = h0) (fun _ _ _ _ _ => True) (fun _ U o U' => ∃ v L, o = .returned v ∧ Q_eq_int Z a0 a1 h0 n0 v U'.heap L ∧ FrameEnd U o U' L ({ frames := 0, cells := 0, slots := 0, locals := 0 } : Room).cells ({ frames := 0, cells := 0, slots := 0, locals := 0 } : Room).slots) := by
  refine MetFree.of_bodySF (plainFor_of_name pn_com_example_locktop_locktop_snapshot_Blocker_Backend) hisR ?_
  intro p e s m args below meth c s₁ Bd hml0 hP hK
  obtain ⟨rfl, hZ, hh⟩ := hP
  have hx := Bd.exec
  have hby := Bd.bytes
  have hml : c.maxLocals = 3 := hml0
  have hown : s.vm.findClass "com/example/locktop/locktop/snapshot/Blocker$Backend" = some m.cls := findClass_of_methodNamed Bd.named
  have hnm := (name_of_methodNamed Bd.named Bd.method).1
  have X0 : Stand p l e ({ frames := 0, cells := 0, slots := 0, locals := 0 } : Room) s m #[(.ref a0), (.ref a1)] below meth c s₁ [] 0 0 := Stand.of_body Bd
  have e0 : s₁.heap = h0 := by rw [← hh, Bd.state]; rfl
  have N0 := Fr.nil n0
  have pre0 : ∀ tz_, Steps p.tables e below (s₁.setTop (mkF m 0 #[.val (.ref a0), .val (.ref a1), .unset] [])) tz_ → Steps p.tables e below (s₁.setTop (entryFrame m #[(.ref a0), (.ref a1)] 3)) tz_ := fun tz_ kz_ => castTop (ef_eq_int m a0 a1) kz_
  obtain ⟨T31, X31, e31, st31⟩ := instNo X0 hx hZ hown (hw _ (List.mem_of_getElem? (i := 55) rfl)) e0 p0_E (own_no (hw _ (List.mem_of_getElem? (i := 66) rfl)) (hw _ (List.mem_of_getElem? (i := 1) rfl)) (NS.step (hw _ (List.mem_of_getElem? (i := 66) rfl)) (NS.step (hw _ (List.mem_of_getElem? (i := 67) rfl)) (own_root (hw _ (List.mem_of_getElem? (i := 58) rfl)) (hw _ (List.mem_of_getElem? (i := 1) rfl)) (by decide)) (by decide)) (by decide)) (by decide)) (g := (mkF m 1 #[.val (.ref a0), .val (.ref a1), .unset] [(.ref a1)])) rfl rfl (hb hby d9_1)
  obtain ⟨fs, hrL, hrun, hended, hW, hsame⟩ := X31.leave (v := some (.int 0)) (fun h => by rw [Bd.returns] at h; cases h)
  refine ⟨_, _, pre0 _ ?_, hrun, hended, _, _, rfl, ?_, ⟨_, rfl⟩, hW, hsame.mono (by decide) (by decide)⟩
  · show Steps p.tables e below (s₁.setTop (mkF m 0 #[.val (.ref a0), .val (.ref a1), .unset] [])) _
    refine XS.aloadN X0.here hx rfl (hb hby d9_0) rfl rfl ?_
    show Steps p.tables e below (s₁.setTop (mkF m 1 #[.val (.ref a0), .val (.ref a1), .unset] [(.ref a1)])) _
    refine st31 _ ?_
    show Steps p.tables e below (T31.setTop (mkF m 4 #[.val (.ref a0), .val (.ref a1), .unset] [(.int 0)])) _
    refine XS.ifYes X31.here hx rfl (pc0 := 4) (pc' := 27) rfl (hb hby d9_4) rfl ((if0 _ _).trans (teq (by decide : (0 : Int32) = (0 : Int32))).1) (by decide) (by decide) ?_
    show Steps p.tables e below (T31.setTop (mkF m 27 #[.val (.ref a0), .val (.ref a1), .unset] [])) _
    refine XS.iconst X31.here hx rfl (hb hby d9_27) ?_
    show Steps p.tables e below (T31.setTop (mkF m 28 #[.val (.ref a0), .val (.ref a1), .unset] [(.int 0)])) _
    exact retN X31 hx (t := .boolean) Bd.returns (by simp) (hb hby d9_28) hrL
  · show Q_eq_int _ _ _ _ _ _  T31.heap _
    rw [e31]
    exact ⟨rfl, N0, rfl⟩
theorem ef_eq_null (m : MethodId) (a0 : Addr) : entryFrame m #[(.ref a0), .null] 3 = mkF m 0 #[.val (.ref a0), .val .null, .unset] [] := by first | (simp [entryFrame, mkF, argsToLocals, Value.category]; done) | rfl
def Q_eq_null (Z : State) (a0 : Addr) (h0 : Heap) (n0 : Nat) (v : Option Value) (h : Heap) (L : List Loc) : Prop := v = some (.int 0) ∧ Fr n0 L ∧ h = h0
set_option maxRecDepth 65536 in
set_option maxHeartbeats 40000000 in
theorem eq_null (l : Launch) (Z : State) (av0 : Array Value) (hw : ∀ d ∈ tables_1, d.before av0 Z = true) (ws : List Jvm.Cond) (a0 : Addr) (h0 : Heap) (n0 : Nat) (Z0 : n0 ≤ h0.size) :
    MetFree l (⟨"com/example/locktop/locktop/snapshot/Blocker$Backend", "equals", "(Ljava/lang/Object;)Z"⟩ : MethodName) (head1 (Jvm.Cond.code (⟨"com/example/locktop/locktop/snapshot/Blocker$Backend", "equals", "(Ljava/lang/Object;)Z"⟩ : MethodName) prog_28_method_2_code 3 (some .boolean) :: ws) ({ frames := 0, cells := 0, slots := 0, locals := 0 } : Room)) (fun a U => a = #[(.ref a0), .null] ∧ Z.Warmed39 U.vm ∧ U.heap = h0) (fun _ _ _ _ _ => True) (fun _ U o U' => ∃ v L, o = .returned v ∧ Q_eq_null Z a0 h0 n0 v U'.heap L ∧ FrameEnd U o U' L ({ frames := 0, cells := 0, slots := 0, locals := 0 } : Room).cells ({ frames := 0, cells := 0, slots := 0, locals := 0 } : Room).slots) := by
  refine MetFree.of_bodySF (plainFor_of_name pn_com_example_locktop_locktop_snapshot_Blocker_Backend) hisR ?_
  intro p e s m args below meth c s₁ Bd hml0 hP hK
  obtain ⟨rfl, hZ, hh⟩ := hP
  have hx := Bd.exec
  have hby := Bd.bytes
  have hml : c.maxLocals = 3 := hml0
  have hown : s.vm.findClass "com/example/locktop/locktop/snapshot/Blocker$Backend" = some m.cls := findClass_of_methodNamed Bd.named
  have hnm := (name_of_methodNamed Bd.named Bd.method).1
  have X0 : Stand p l e ({ frames := 0, cells := 0, slots := 0, locals := 0 } : Room) s m #[(.ref a0), .null] below meth c s₁ [] 0 0 := Stand.of_body Bd
  have e0 : s₁.heap = h0 := by rw [← hh, Bd.state]; rfl
  have N0 := Fr.nil n0
  have pre0 : ∀ tz_, Steps p.tables e below (s₁.setTop (mkF m 0 #[.val (.ref a0), .val .null, .unset] [])) tz_ → Steps p.tables e below (s₁.setTop (entryFrame m #[(.ref a0), .null] 3)) tz_ := fun tz_ kz_ => castTop (ef_eq_null m a0) kz_
  obtain ⟨fs, hrL, hrun, hended, hW, hsame⟩ := X0.leave (v := some (.int 0)) (fun h => by rw [Bd.returns] at h; cases h)
  refine ⟨_, _, pre0 _ ?_, hrun, hended, _, _, rfl, ?_, ⟨_, rfl⟩, hW, hsame.mono (by decide) (by decide)⟩
  · show Steps p.tables e below (s₁.setTop (mkF m 0 #[.val (.ref a0), .val .null, .unset] [])) _
    refine XS.aloadN X0.here hx rfl (hb hby d9_0) rfl rfl ?_
    show Steps p.tables e below (s₁.setTop (mkF m 1 #[.val (.ref a0), .val .null, .unset] [.null])) _
    refine X0.instanceofNull hx (g := (mkF m 1 #[.val (.ref a0), .val .null, .unset] [.null])) rfl rfl (hb hby d9_1) _ ?_
    show Steps p.tables e below (s₁.setTop (mkF m 4 #[.val (.ref a0), .val .null, .unset] [(.int 0)])) _
    refine XS.ifYes X0.here hx rfl (pc0 := 4) (pc' := 27) rfl (hb hby d9_4) rfl ((if0 _ _).trans (teq (by decide : (0 : Int32) = (0 : Int32))).1) (by decide) (by decide) ?_
    show Steps p.tables e below (s₁.setTop (mkF m 27 #[.val (.ref a0), .val .null, .unset] [])) _
    refine XS.iconst X0.here hx rfl (hb hby d9_27) ?_
    show Steps p.tables e below (s₁.setTop (mkF m 28 #[.val (.ref a0), .val .null, .unset] [(.int 0)])) _
    exact retN X0 hx (t := .boolean) Bd.returns (by simp) (hb hby d9_28) hrL
  · show Q_eq_null _ _ _ _ _  s₁.heap _
    rw [e0]
    exact ⟨rfl, N0, rfl⟩
theorem pd_7 : parseMethodDescriptor "(Ljava/lang/Object;)Z" = some ⟨[(.object "java/lang/Object")], some .boolean⟩ := by decide +kernel
theorem pd_2 : parseMethodDescriptor "(C)Ljava/lang/String;" = some ⟨[.char], some (.object "java/lang/String")⟩ := by decide +kernel
theorem pd_6 : parseMethodDescriptor "(Ljava/lang/String;)V" = some ⟨[(.object "java/lang/String")], none⟩ := by decide +kernel
theorem pd_8 : parseMethodDescriptor "(I)Ljava/lang/Integer;" = some ⟨[.int], some (.object "java/lang/Integer")⟩ := by decide +kernel
theorem pn_com_example_locktop_locktop_snapshot_BackendEqualsPinLaw : plainName "com/example/locktop/locktop/snapshot/BackendEqualsPinLaw" = true := by first | (simp [plainName, overriddenIn]; done) | decide +kernel
theorem ef_rm0 (m : MethodId) (i0 : Int32) (i1 : Int32) (i2 : Int32) : entryFrame m #[(.int i0), (.int i1), (.int i2)] maxLocals = mkF m 0 #[.val (.int i0), .val (.int i1), .val (.int i2), .unset, .unset, .unset, .unset] [] := by first | (simp [entryFrame, mkF, argsToLocals, Value.category, maxLocals]; done) | rfl
def Q_rm0 (Z : State) (i0 : Int32) (i1 : Int32) (i2 : Int32) (cs : Int32) (ca : Addr) (cl : Cell) (h0 : Heap) (n0 : Nat) (v : Option Value) (h : Heap) (L : List Loc) : Prop := v = some (.int 1) ∧ Fr n0 L ∧ Keep h0 h []
set_option maxRecDepth 65536 in
set_option maxHeartbeats 40000000 in
theorem rm0 (l : Launch) (Z : State) (av0 : Array Value) (hw : ∀ d ∈ tables_1, d.before av0 Z = true) (ws : List Jvm.Cond) (i0 : Int32) (i1 : Int32) (i2 : Int32) (cs : Int32) (ca : Addr) (cl : Cell) (h0 : Heap) (n0 : Nat) (Z0 : n0 ≤ h0.size) (p0_O : Old Z n0 h0) (p1_S : Sta Z Z.heap "java/lang/String" "COMPACT_STRINGS" "Z" (.int cs)) (hcs : ¬ (cs = (0 : Int32))) (p3_S : Sta Z Z.heap "java/lang/Integer$IntegerCache" "high" "I" (.int 127)) (p4_S : Sta Z Z.heap "java/lang/Integer$IntegerCache" "cache" "[Ljava/lang/Integer;" (.ref ca)) (hbx : Bxs Z ca cl "java/lang/Integer" "I" (256 : Int32) (fun j => Value.int (j - (128 : Int32)))) :
    MetFree l x (head1 (Jvm.Cond.code x code maxLocals ret :: ws) room_1) (fun a U => a = #[(.int i0), (.int i1), (.int i2)] ∧ Z.Warmed39 U.vm ∧ U.heap = h0) (fun _ _ _ _ _ => True) (fun _ U o U' => ∃ v L, o = .returned v ∧ Q_rm0 Z i0 i1 i2 cs ca cl h0 n0 v U'.heap L ∧ FrameEnd U o U' L room_1.cells room_1.slots) := by
  refine MetFree.of_bodySF (plainFor_of_name pn_com_example_locktop_locktop_snapshot_BackendEqualsPinLaw) hisR ?_
  intro p e s m args below meth c s₁ Bd hml0 hP hK
  obtain ⟨rfl, hZ, hh⟩ := hP
  have hx := Bd.exec
  have hby := Bd.bytes
  have hml : c.maxLocals = 7 := hml0
  have hown : s.vm.findClass "com/example/locktop/locktop/snapshot/BackendEqualsPinLaw" = some m.cls := findClass_of_methodNamed Bd.named
  have hnm := (name_of_methodNamed Bd.named Bd.method).1
  have X0 : Stand p l e room_1 s m #[(.int i0), (.int i1), (.int i2)] below meth c s₁ [] 0 0 := Stand.of_body Bd
  have e0 : s₁.heap = h0 := by rw [← hh, Bd.state]; rfl
  have N0 := Fr.nil n0
  have pre0 : ∀ tz_, Steps p.tables e below (s₁.setTop (mkF m 0 #[.val (.int i0), .val (.int i1), .val (.int i2), .unset, .unset, .unset, .unset] [])) tz_ → Steps p.tables e below (s₁.setTop (entryFrame m #[(.int i0), (.int i1), (.int i2)] maxLocals)) tz_ := fun tz_ kz_ => castTop (ef_rm0 m i0 i1 i2) kz_
  have K0 : Keep h0 h0 [] := Keep.refl h0 []
  obtain ⟨T31, h31, X31, e31, E31, A31, D31, -, st31⟩ := newO X0 hx hZ hown (hw _ (List.mem_of_getElem? (i := 0) rfl)) (hw _ (List.mem_of_getElem? (i := 1) rfl)) (hw _ (List.mem_of_getElem? (i := 2) rfl)) e0 (g := (mkF m 0 #[.val (.int i0), .val (.int i1), .val (.int i2), .unset, .unset, .unset, .unset] [])) rfl (hb hby at_0) (by decide) (by decide)
  obtain ⟨b31, q31⟩ : ∃ z, z = h0.size := ⟨_, rfl⟩
  rw [← q31] at A31 D31 st31
  have g_b31 : n0 ≤ b31 := Nat.le_trans (own_le p0_O) (Nat.le_of_eq q31.symm)
  have sz_b31 : h0.size ≤ b31 := Nat.le_trans K0.1 (Nat.le_of_eq q31.symm)
  have K32 := K0.ext E31
  have O32 := p0_O.ext E31
  have F31_pid : Fld Z h31 b31 "com/example/locktop/locktop/snapshot/Blocker$Backend" "pid" "I" (.int 0) := D31 (Or.inr (hw _ (List.mem_of_getElem? (i := 15) rfl))) (ty := .int) (by decide)
  -- pc 5: Blocker$Backend.init
  obtain ⟨_, _, ⟨T33, L33, k33, n33⟩, -, X33, ⟨Lc33, hQ33, l33, y33, z33⟩, st33⟩ := X31.specialBack hx (y := (⟨"com/example/locktop/locktop/snapshot/Blocker$Backend", "<init>", "(I)V"⟩ : MethodName)) rfl hown (mvT hZ (hw _ (List.mem_of_getElem? (i := 3) rfl))) (mvT hZ (hw _ (List.mem_of_getElem? (i := 4) rfl))) (mvT hZ (hw _ (List.mem_of_getElem? (i := 5) rfl))) (by decide) (backOf (W := 1) (rm1 l Z av0 hw [] b31 i0 h31 n0 (own_le O32) A31 F31_pid g_b31) hZ (hw _ (List.mem_of_getElem? (i := 5) rfl)) (hw _ (List.mem_of_getElem? (i := 2) rfl)) (by decide) (by decide)) (g := (mkF m 5 #[.val (.int i0), .val (.int i1), .val (.int i2), .unset, .unset, .unset, .unset] [(.int i0), (.ref b31), (.ref b31)])) rfl (by rw [hml]; rfl) (Steps.refl _) (a := b31) (argsL := [(.int i0)]) (rest := [(.ref b31)]) (lenOf pd_0 rfl) rfl (by show 2 * 0 + _ ≤ _; exact Nat.le_of_eq rfl) (hb hby at_5) (fun vmx hWx => ⟨rfl, e31, (by decide : 1 + 0 ≤ _), (by decide : 1 + 0 ≤ _)⟩)
  dsimp only [Pt.U, Pt.locs, Pt.cells, Pt.slots] at X33 l33 y33 z33 st33 hQ33
  subst l33 y33 z33
  obtain ⟨rv33, Nq33, Kq33, u33_0, u33_1⟩ := hQ33
  subst rv33
  have N33 := Fr.app N0 Nq33
  have K34 := K32.trans Kq33 (allS (Or.inr sz_b31) all0)
  have O34 := O32.keep Kq33 (allS g_b31 all0)
  have pre35 : ∀ tz_, Steps p.tables e below (T33.setTop (mkF m 19 #[.val (.int i0), .val (.int i1), .val (.int i2), .val (.ref b31), .val (.int ((i2 &&& (2147483647 : Int32)) % (5 : Int32))), .unset, .unset] [(.int ((i2 &&& (2147483647 : Int32)) % (5 : Int32)))])) tz_ → Steps p.tables e below (s₁.setTop (entryFrame m #[(.int i0), (.int i1), (.int i2)] maxLocals)) tz_ := fun tz_ kk => pre0 tz_ (by
    show Steps p.tables e below (s₁.setTop (mkF m 0 #[.val (.int i0), .val (.int i1), .val (.int i2), .unset, .unset, .unset, .unset] [])) _
    refine st31 _ ?_
    refine XS.dup X31.here hx rfl (hb hby at_3) rfl rfl ?_
    refine XS.iloadN X31.here hx rfl (hb hby at_4) rfl ?_
    show Steps p.tables e below (T31.setTop (mkF m 5 #[.val (.int i0), .val (.int i1), .val (.int i2), .unset, .unset, .unset, .unset] [(.int i0), (.ref b31), (.ref b31)])) _
    refine st33.trans ?_
    refine XS.astoreN X33.here hx rfl (hb hby at_8) rfl rfl (l' := #[.val (.int i0), .val (.int i1), .val (.int i2), .val (.ref b31), .unset, .unset, .unset]) rfl ?_
    refine XS.iloadN X33.here hx rfl (hb hby at_9) rfl ?_
    show Steps p.tables e below (T33.setTop (mkF m 10 #[.val (.int i0), .val (.int i1), .val (.int i2), .val (.ref b31), .unset, .unset, .unset] [(.int i2)])) _
    refine X33.ldcInt hx hown (mvT hZ (hw _ (List.mem_of_getElem? (i := 16) rfl))) (g := (mkF m 10 #[.val (.int i0), .val (.int i1), .val (.int i2), .val (.ref b31), .unset, .unset, .unset] [(.int i2)])) rfl (hb hby at_10) _ ?_
    show Steps p.tables e below (T33.setTop (mkF m 12 #[.val (.int i0), .val (.int i1), .val (.int i2), .val (.ref b31), .unset, .unset, .unset] [(.int 2147483647), (.int i2)])) _
    refine XS.iand X33.here hx rfl (hb hby at_12) rfl ?_
    refine XS.iconst X33.here hx rfl (hb hby at_13) ?_
    show Steps p.tables e below (T33.setTop (mkF m 14 #[.val (.int i0), .val (.int i1), .val (.int i2), .val (.ref b31), .unset, .unset, .unset] [(.int 5), (.int (i2 &&& (2147483647 : Int32)))])) _
    refine Jvm.RoadKit.iremM X33 hx rfl (hb hby at_14) rfl (by decide) ?_
    refine XS.istore X33.here hx rfl (hb hby at_15) rfl (l' := #[.val (.int i0), .val (.int i1), .val (.int i2), .val (.ref b31), .val (.int ((i2 &&& (2147483647 : Int32)) % (5 : Int32))), .unset, .unset]) rfl ?_
    show Steps p.tables e below (T33.setTop (mkF m 17 #[.val (.int i0), .val (.int i1), .val (.int i2), .val (.ref b31), .val (.int ((i2 &&& (2147483647 : Int32)) % (5 : Int32))), .unset, .unset] [])) _
    refine XS.iload X33.here hx rfl (hb hby at_17) rfl ?_
    exact kk)
  by_cases hc36 : ((i2 &&& (2147483647 : Int32)) % (5 : Int32)) = (0 : Int32)
  · skip
    obtain ⟨T37, h37, X37, e37, E37, A37, D37, -, st37⟩ := newO X33 hx hZ hown (hw _ (List.mem_of_getElem? (i := 0) rfl)) (hw _ (List.mem_of_getElem? (i := 1) rfl)) (hw _ (List.mem_of_getElem? (i := 2) rfl)) rfl (g := (mkF m 22 #[.val (.int i0), .val (.int i1), .val (.int i2), .val (.ref b31), .val (.int ((i2 &&& (2147483647 : Int32)) % (5 : Int32))), .unset, .unset] [])) rfl (hb hby at_22) (by decide) (by decide)
    obtain ⟨b37, q37⟩ : ∃ z, z = T33.heap.size := ⟨_, rfl⟩
    rw [← q37] at A37 D37 st37
    have g_b37 : n0 ≤ b37 := Nat.le_trans (own_le O34) (Nat.le_of_eq q37.symm)
    have sz_b37 : h0.size ≤ b37 := Nat.le_trans K34.1 (Nat.le_of_eq q37.symm)
    have K38 := K34.ext E37
    have O38 := O34.ext E37
    have F37_pid : Fld Z h37 b37 "com/example/locktop/locktop/snapshot/Blocker$Backend" "pid" "I" (.int 0) := D37 (Or.inr (hw _ (List.mem_of_getElem? (i := 15) rfl))) (ty := .int) (by decide)
    -- pc 27: Blocker$Backend.init
    obtain ⟨_, _, ⟨T39, L39, k39, n39⟩, -, X39, ⟨Lc39, hQ39, l39, y39, z39⟩, st39⟩ := X37.specialBack hx (y := (⟨"com/example/locktop/locktop/snapshot/Blocker$Backend", "<init>", "(I)V"⟩ : MethodName)) rfl hown (mvT hZ (hw _ (List.mem_of_getElem? (i := 3) rfl))) (mvT hZ (hw _ (List.mem_of_getElem? (i := 4) rfl))) (mvT hZ (hw _ (List.mem_of_getElem? (i := 5) rfl))) (by decide) (backOf (W := 1) (rm1 l Z av0 hw [] b37 i1 h37 n0 (own_le O38) A37 F37_pid g_b37) hZ (hw _ (List.mem_of_getElem? (i := 5) rfl)) (hw _ (List.mem_of_getElem? (i := 2) rfl)) (by decide) (by decide)) (g := (mkF m 27 #[.val (.int i0), .val (.int i1), .val (.int i2), .val (.ref b31), .val (.int ((i2 &&& (2147483647 : Int32)) % (5 : Int32))), .unset, .unset] [(.int i1), (.ref b37), (.ref b37)])) rfl (by rw [hml]; rfl) (Steps.refl _) (a := b37) (argsL := [(.int i1)]) (rest := [(.ref b37)]) (lenOf pd_0 rfl) rfl (by show 2 * 0 + _ ≤ _; exact Nat.le_of_eq rfl) (hb hby at_27) (fun vmx hWx => ⟨rfl, e37, (by decide : 2 + 0 ≤ _), (by decide : 2 + 0 ≤ _)⟩)
    dsimp only [Pt.U, Pt.locs, Pt.cells, Pt.slots] at X39 l39 y39 z39 st39 hQ39
    subst l39 y39 z39
    obtain ⟨rv39, Nq39, Kq39, u39_0, u39_1⟩ := hQ39
    subst rv39
    have N39 := Fr.app N33 Nq39
    have K40 := K38.trans Kq39 (allS (Or.inr sz_b37) all0)
    have O40 := O38.keep Kq39 (allS g_b37 all0)
    have pre41 : ∀ tz_, Steps p.tables e below (T39.setTop (mkF m 34 #[.val (.int i0), .val (.int i1), .val (.int i2), .val (.ref b31), .val (.int ((i2 &&& (2147483647 : Int32)) % (5 : Int32))), .val (.ref b37), .unset] [(.int i1), (.int i0)])) tz_ → Steps p.tables e below (s₁.setTop (entryFrame m #[(.int i0), (.int i1), (.int i2)] maxLocals)) tz_ := fun tz_ kk => pre35 tz_ (by
      show Steps p.tables e below (T33.setTop (mkF m 19 #[.val (.int i0), .val (.int i1), .val (.int i2), .val (.ref b31), .val (.int ((i2 &&& (2147483647 : Int32)) % (5 : Int32))), .unset, .unset] [(.int ((i2 &&& (2147483647 : Int32)) % (5 : Int32)))])) _
      refine XS.ifNo X33.here hx rfl (hb hby at_19) rfl ((if0 _ _).trans (teq hc36).2) ?_
      show Steps p.tables e below (T33.setTop (mkF m 22 #[.val (.int i0), .val (.int i1), .val (.int i2), .val (.ref b31), .val (.int ((i2 &&& (2147483647 : Int32)) % (5 : Int32))), .unset, .unset] [])) _
      refine st37 _ ?_
      refine XS.dup X37.here hx rfl (hb hby at_25) rfl rfl ?_
      show Steps p.tables e below (T37.setTop (mkF m 26 #[.val (.int i0), .val (.int i1), .val (.int i2), .val (.ref b31), .val (.int ((i2 &&& (2147483647 : Int32)) % (5 : Int32))), .unset, .unset] [(.ref b37), (.ref b37)])) _
      refine XS.iloadN X37.here hx rfl (hb hby at_26) rfl ?_
      show Steps p.tables e below (T37.setTop (mkF m 27 #[.val (.int i0), .val (.int i1), .val (.int i2), .val (.ref b31), .val (.int ((i2 &&& (2147483647 : Int32)) % (5 : Int32))), .unset, .unset] [(.int i1), (.ref b37), (.ref b37)])) _
      refine st39.trans ?_
      refine XS.astore X39.here hx rfl (hb hby at_30) rfl rfl (l' := #[.val (.int i0), .val (.int i1), .val (.int i2), .val (.ref b31), .val (.int ((i2 &&& (2147483647 : Int32)) % (5 : Int32))), .val (.ref b37), .unset]) rfl ?_
      refine XS.iloadN X39.here hx rfl (hb hby at_32) rfl ?_
      show Steps p.tables e below (T39.setTop (mkF m 33 #[.val (.int i0), .val (.int i1), .val (.int i2), .val (.ref b31), .val (.int ((i2 &&& (2147483647 : Int32)) % (5 : Int32))), .val (.ref b37), .unset] [(.int i0)])) _
      refine XS.iloadN X39.here hx rfl (hb hby at_33) rfl ?_
      exact kk)
    by_cases hc42 : i0 = i1
    · skip
      have ne43 : b31 ≠ b37 := (Nat.ne_of_lt (Nat.lt_of_lt_of_le u33_0.lt (Nat.le_of_eq q37.symm)))
      have f44 := ((u33_1.ext E37).keep Kq39 (ninS ne43 nin0))
      -- pc 126: Blocker$Backend.equals
      have f46 := ((u33_0.ext E37).keep Kq39)
      obtain ⟨cq45, kq45, q45a, q45b, q45c⟩ := isOf hZ rfl f46
      obtain ⟨_, _, ⟨T45, L45, k45, n45⟩, -, X45, ⟨Lc45, hQ45, l45, y45, z45⟩, st45⟩ := X39.virtualBack hx (y := (⟨"com/example/locktop/locktop/snapshot/Blocker$Backend", "equals", "(Ljava/lang/Object;)Z"⟩ : MethodName)) (z := (⟨"com/example/locktop/locktop/snapshot/Blocker$Backend", "equals", "(Ljava/lang/Object;)Z"⟩ : MethodName)) hown (mvT hZ (hw _ (List.mem_of_getElem? (i := 50) rfl))) (mvT hZ (hw _ (List.mem_of_getElem? (i := 51) rfl))) (notFace_of_selects (args := #[]) (mvT hZ (hw _ (List.mem_of_getElem? (i := 53) rfl)))) (mvT hZ (hw _ (List.mem_of_getElem? (i := 53) rfl))) (mvT hZ (hw _ (List.mem_of_getElem? (i := 52) rfl))) (by decide) (backOf (W := 0) (eq_same l Z av0 hw [] b31 b37 i0 i1 (1 : Int32) T39.heap n0 (own_le O40) f44 u39_0 u39_1 (⟨fun _ => rfl, fun h => absurd hc42.symm h⟩ : (i1 = i0 → (1 : Int32) = (1 : Int32)) ∧ (¬ (i1 = i0) → (1 : Int32) = (0 : Int32)))) hZ (hw _ (List.mem_of_getElem? (i := 54) rfl)) (hw _ (List.mem_of_getElem? (i := 2) rfl)) (by decide) (by decide)) q45a q45c (g := (mkF m 126 #[.val (.int i0), .val (.int i1), .val (.int i2), .val (.ref b31), .val (.int ((i2 &&& (2147483647 : Int32)) % (5 : Int32))), .val (.ref b37), .val (.int 1)] [(.ref b37), (.ref b31)])) rfl (by rw [hml]; rfl) (Steps.refl _) (argsL := [(.ref b37)]) (rest := []) (lenOf pd_7 rfl) rfl (by show 2 * 0 + _ ≤ _; exact Nat.le_of_eq rfl) (hb hby at_126) (fun vmx hWx => ⟨rfl, rfl, (by decide : 2 + 0 ≤ _), (by decide : 2 + 0 ≤ _)⟩)
      dsimp only [Pt.U, Pt.locs, Pt.cells, Pt.slots] at X45 l45 y45 z45 st45 hQ45
      subst l45 y45 z45
      obtain ⟨rv45, Nq45, Kq45⟩ := hQ45
      subst rv45
      have N45 := Fr.app N39 Nq45
      obtain ⟨fs, hrL, hrun, hended, hW, hsame⟩ := X45.leave (v := some (.int 1)) (fun h => by rw [Bd.returns] at h; cases h)
      refine ⟨_, _, pre41 _ ?_, hrun, hended, _, _, rfl, ?_, ⟨_, rfl⟩, hW, hsame.mono (by decide) (by decide)⟩
      · show Steps p.tables e below (T39.setTop (mkF m 34 #[.val (.int i0), .val (.int i1), .val (.int i2), .val (.ref b31), .val (.int ((i2 &&& (2147483647 : Int32)) % (5 : Int32))), .val (.ref b37), .unset] [(.int i1), (.int i0)])) _
        refine XS.icmpNo X39.here hx rfl (hb hby at_34) rfl (teq hc42).2 ?_
        refine XS.iconst X39.here hx rfl (hb hby at_37) ?_
        refine XS.goto X39.here hx rfl (pc0 := 38) (pc' := 42) rfl (hb hby at_38) (by decide) (by decide) ?_
        show Steps p.tables e below (T39.setTop (mkF m 42 #[.val (.int i0), .val (.int i1), .val (.int i2), .val (.ref b31), .val (.int ((i2 &&& (2147483647 : Int32)) % (5 : Int32))), .val (.ref b37), .unset] [(.int 1)])) _
        refine XS.istore X39.here hx rfl (hb hby at_42) rfl (l' := #[.val (.int i0), .val (.int i1), .val (.int i2), .val (.ref b31), .val (.int ((i2 &&& (2147483647 : Int32)) % (5 : Int32))), .val (.ref b37), .val (.int 1)]) rfl ?_
        refine XS.goto X39.here hx rfl (pc0 := 44) (pc' := 123) rfl (hb hby at_44) (by decide) (by decide) ?_
        refine XS.aloadN X39.here hx rfl (hb hby at_123) rfl rfl ?_
        refine XS.aload X39.here hx rfl (hb hby at_124) rfl rfl ?_
        show Steps p.tables e below (T39.setTop (mkF m 126 #[.val (.int i0), .val (.int i1), .val (.int i2), .val (.ref b31), .val (.int ((i2 &&& (2147483647 : Int32)) % (5 : Int32))), .val (.ref b37), .val (.int 1)] [(.ref b37), (.ref b31)])) _
        refine st45.trans ?_
        refine XS.iload X45.here hx rfl (hb hby at_129) rfl ?_
        show Steps p.tables e below (T45.setTop (mkF m 131 #[.val (.int i0), .val (.int i1), .val (.int i2), .val (.ref b31), .val (.int ((i2 &&& (2147483647 : Int32)) % (5 : Int32))), .val (.ref b37), .val (.int 1)] [(.int 1), (.int 1)])) _
        refine XS.icmpNo X45.here hx rfl (hb hby at_131) rfl (teq (by decide : (1 : Int32) = (1 : Int32))).2 ?_
        refine XS.iconst X45.here hx rfl (hb hby at_134) ?_
        show Steps p.tables e below (T45.setTop (mkF m 135 #[.val (.int i0), .val (.int i1), .val (.int i2), .val (.ref b31), .val (.int ((i2 &&& (2147483647 : Int32)) % (5 : Int32))), .val (.ref b37), .val (.int 1)] [(.int 1)])) _
        refine XS.goto X45.here hx rfl (pc0 := 135) (pc' := 139) rfl (hb hby at_135) (by decide) (by decide) ?_
        show Steps p.tables e below (T45.setTop (mkF m 139 #[.val (.int i0), .val (.int i1), .val (.int i2), .val (.ref b31), .val (.int ((i2 &&& (2147483647 : Int32)) % (5 : Int32))), .val (.ref b37), .val (.int 1)] [(.int 1)])) _
        exact retN X45 hx (t := .boolean) Bd.returns (by simp) (hb hby at_139) hrL
      · show Q_rm0 _ _ _ _ _ _ _ _ _ _  T45.heap _
        rw [Kq45]
        exact ⟨rfl, N45, K40⟩
    · skip
      have ne47 : b31 ≠ b37 := (Nat.ne_of_lt (Nat.lt_of_lt_of_le u33_0.lt (Nat.le_of_eq q37.symm)))
      have f48 := ((u33_1.ext E37).keep Kq39 (ninS ne47 nin0))
      -- pc 126: Blocker$Backend.equals
      have f50 := ((u33_0.ext E37).keep Kq39)
      obtain ⟨cq49, kq49, q49a, q49b, q49c⟩ := isOf hZ rfl f50
      obtain ⟨_, _, ⟨T49, L49, k49, n49⟩, -, X49, ⟨Lc49, hQ49, l49, y49, z49⟩, st49⟩ := X39.virtualBack hx (y := (⟨"com/example/locktop/locktop/snapshot/Blocker$Backend", "equals", "(Ljava/lang/Object;)Z"⟩ : MethodName)) (z := (⟨"com/example/locktop/locktop/snapshot/Blocker$Backend", "equals", "(Ljava/lang/Object;)Z"⟩ : MethodName)) hown (mvT hZ (hw _ (List.mem_of_getElem? (i := 50) rfl))) (mvT hZ (hw _ (List.mem_of_getElem? (i := 51) rfl))) (notFace_of_selects (args := #[]) (mvT hZ (hw _ (List.mem_of_getElem? (i := 53) rfl)))) (mvT hZ (hw _ (List.mem_of_getElem? (i := 53) rfl))) (mvT hZ (hw _ (List.mem_of_getElem? (i := 52) rfl))) (by decide) (backOf (W := 0) (eq_same l Z av0 hw [] b31 b37 i0 i1 (0 : Int32) T39.heap n0 (own_le O40) f48 u39_0 u39_1 (⟨fun h => absurd h.symm hc42, fun _ => rfl⟩ : (i1 = i0 → (0 : Int32) = (1 : Int32)) ∧ (¬ (i1 = i0) → (0 : Int32) = (0 : Int32)))) hZ (hw _ (List.mem_of_getElem? (i := 54) rfl)) (hw _ (List.mem_of_getElem? (i := 2) rfl)) (by decide) (by decide)) q49a q49c (g := (mkF m 126 #[.val (.int i0), .val (.int i1), .val (.int i2), .val (.ref b31), .val (.int ((i2 &&& (2147483647 : Int32)) % (5 : Int32))), .val (.ref b37), .val (.int 0)] [(.ref b37), (.ref b31)])) rfl (by rw [hml]; rfl) (Steps.refl _) (argsL := [(.ref b37)]) (rest := []) (lenOf pd_7 rfl) rfl (by show 2 * 0 + _ ≤ _; exact Nat.le_of_eq rfl) (hb hby at_126) (fun vmx hWx => ⟨rfl, rfl, (by decide : 2 + 0 ≤ _), (by decide : 2 + 0 ≤ _)⟩)
      dsimp only [Pt.U, Pt.locs, Pt.cells, Pt.slots] at X49 l49 y49 z49 st49 hQ49
      subst l49 y49 z49
      obtain ⟨rv49, Nq49, Kq49⟩ := hQ49
      subst rv49
      have N49 := Fr.app N39 Nq49
      obtain ⟨fs, hrL, hrun, hended, hW, hsame⟩ := X49.leave (v := some (.int 1)) (fun h => by rw [Bd.returns] at h; cases h)
      refine ⟨_, _, pre41 _ ?_, hrun, hended, _, _, rfl, ?_, ⟨_, rfl⟩, hW, hsame.mono (by decide) (by decide)⟩
      · show Steps p.tables e below (T39.setTop (mkF m 34 #[.val (.int i0), .val (.int i1), .val (.int i2), .val (.ref b31), .val (.int ((i2 &&& (2147483647 : Int32)) % (5 : Int32))), .val (.ref b37), .unset] [(.int i1), (.int i0)])) _
        refine XS.icmpYes X39.here hx rfl (pc0 := 34) (pc' := 41) rfl (hb hby at_34) rfl (feq hc42).2 (by decide) (by decide) ?_
        refine XS.iconst X39.here hx rfl (hb hby at_41) ?_
        refine XS.istore X39.here hx rfl (hb hby at_42) rfl (l' := #[.val (.int i0), .val (.int i1), .val (.int i2), .val (.ref b31), .val (.int ((i2 &&& (2147483647 : Int32)) % (5 : Int32))), .val (.ref b37), .val (.int 0)]) rfl ?_
        show Steps p.tables e below (T39.setTop (mkF m 44 #[.val (.int i0), .val (.int i1), .val (.int i2), .val (.ref b31), .val (.int ((i2 &&& (2147483647 : Int32)) % (5 : Int32))), .val (.ref b37), .val (.int 0)] [])) _
        refine XS.goto X39.here hx rfl (pc0 := 44) (pc' := 123) rfl (hb hby at_44) (by decide) (by decide) ?_
        refine XS.aloadN X39.here hx rfl (hb hby at_123) rfl rfl ?_
        refine XS.aload X39.here hx rfl (hb hby at_124) rfl rfl ?_
        show Steps p.tables e below (T39.setTop (mkF m 126 #[.val (.int i0), .val (.int i1), .val (.int i2), .val (.ref b31), .val (.int ((i2 &&& (2147483647 : Int32)) % (5 : Int32))), .val (.ref b37), .val (.int 0)] [(.ref b37), (.ref b31)])) _
        refine st49.trans ?_
        show Steps p.tables e below (T49.setTop (mkF m 129 #[.val (.int i0), .val (.int i1), .val (.int i2), .val (.ref b31), .val (.int ((i2 &&& (2147483647 : Int32)) % (5 : Int32))), .val (.ref b37), .val (.int 0)] [(.int 0)])) _
        refine XS.iload X49.here hx rfl (hb hby at_129) rfl ?_
        show Steps p.tables e below (T49.setTop (mkF m 131 #[.val (.int i0), .val (.int i1), .val (.int i2), .val (.ref b31), .val (.int ((i2 &&& (2147483647 : Int32)) % (5 : Int32))), .val (.ref b37), .val (.int 0)] [(.int 0), (.int 0)])) _
        refine XS.icmpNo X49.here hx rfl (hb hby at_131) rfl (teq (by decide : (0 : Int32) = (0 : Int32))).2 ?_
        refine XS.iconst X49.here hx rfl (hb hby at_134) ?_
        refine XS.goto X49.here hx rfl (pc0 := 135) (pc' := 139) rfl (hb hby at_135) (by decide) (by decide) ?_
        show Steps p.tables e below (T49.setTop (mkF m 139 #[.val (.int i0), .val (.int i1), .val (.int i2), .val (.ref b31), .val (.int ((i2 &&& (2147483647 : Int32)) % (5 : Int32))), .val (.ref b37), .val (.int 0)] [(.int 1)])) _
        exact retN X49 hx (t := .boolean) Bd.returns (by simp) (hb hby at_139) hrL
      · show Q_rm0 _ _ _ _ _ _ _ _ _ _  T49.heap _
        rw [Kq49]
        exact ⟨rfl, N49, K40⟩
  · skip
    have pre51 : ∀ tz_, Steps p.tables e below (T33.setTop (mkF m 50 #[.val (.int i0), .val (.int i1), .val (.int i2), .val (.ref b31), .val (.int ((i2 &&& (2147483647 : Int32)) % (5 : Int32))), .unset, .unset] [(.int 1), (.int ((i2 &&& (2147483647 : Int32)) % (5 : Int32)))])) tz_ → Steps p.tables e below (s₁.setTop (entryFrame m #[(.int i0), (.int i1), (.int i2)] maxLocals)) tz_ := fun tz_ kk => pre35 tz_ (by
      show Steps p.tables e below (T33.setTop (mkF m 19 #[.val (.int i0), .val (.int i1), .val (.int i2), .val (.ref b31), .val (.int ((i2 &&& (2147483647 : Int32)) % (5 : Int32))), .unset, .unset] [(.int ((i2 &&& (2147483647 : Int32)) % (5 : Int32)))])) _
      refine XS.ifYes X33.here hx rfl (pc0 := 19) (pc' := 47) rfl (hb hby at_19) rfl ((if0 _ _).trans (feq hc36).2) (by decide) (by decide) ?_
      refine XS.iload X33.here hx rfl (hb hby at_47) rfl ?_
      refine XS.iconst X33.here hx rfl (hb hby at_49) ?_
      exact kk)
    by_cases hc52 : ((i2 &&& (2147483647 : Int32)) % (5 : Int32)) = (1 : Int32)
    · skip
      obtain ⟨T53, h53, X53, e53, E53, A53, D53, -, st53⟩ := newO X33 hx hZ hown (hw _ (List.mem_of_getElem? (i := 0) rfl)) (hw _ (List.mem_of_getElem? (i := 1) rfl)) (hw _ (List.mem_of_getElem? (i := 2) rfl)) rfl (g := (mkF m 53 #[.val (.int i0), .val (.int i1), .val (.int i2), .val (.ref b31), .val (.int ((i2 &&& (2147483647 : Int32)) % (5 : Int32))), .unset, .unset] [])) rfl (hb hby at_53) (by decide) (by decide)
      obtain ⟨b53, q53⟩ : ∃ z, z = T33.heap.size := ⟨_, rfl⟩
      rw [← q53] at A53 D53 st53
      have g_b53 : n0 ≤ b53 := Nat.le_trans (own_le O34) (Nat.le_of_eq q53.symm)
      have sz_b53 : h0.size ≤ b53 := Nat.le_trans K34.1 (Nat.le_of_eq q53.symm)
      have K54 := K34.ext E53
      have O54 := O34.ext E53
      have F53_pid : Fld Z h53 b53 "com/example/locktop/locktop/snapshot/Blocker$Backend" "pid" "I" (.int 0) := D53 (Or.inr (hw _ (List.mem_of_getElem? (i := 15) rfl))) (ty := .int) (by decide)
      -- pc 58: Blocker$Backend.init
      obtain ⟨_, _, ⟨T55, L55, k55, n55⟩, -, X55, ⟨Lc55, hQ55, l55, y55, z55⟩, st55⟩ := X53.specialBack hx (y := (⟨"com/example/locktop/locktop/snapshot/Blocker$Backend", "<init>", "(I)V"⟩ : MethodName)) rfl hown (mvT hZ (hw _ (List.mem_of_getElem? (i := 3) rfl))) (mvT hZ (hw _ (List.mem_of_getElem? (i := 4) rfl))) (mvT hZ (hw _ (List.mem_of_getElem? (i := 5) rfl))) (by decide) (backOf (W := 1) (rm1 l Z av0 hw [] b53 i0 h53 n0 (own_le O54) A53 F53_pid g_b53) hZ (hw _ (List.mem_of_getElem? (i := 5) rfl)) (hw _ (List.mem_of_getElem? (i := 2) rfl)) (by decide) (by decide)) (g := (mkF m 58 #[.val (.int i0), .val (.int i1), .val (.int i2), .val (.ref b31), .val (.int ((i2 &&& (2147483647 : Int32)) % (5 : Int32))), .unset, .unset] [(.int i0), (.ref b53), (.ref b53)])) rfl (by rw [hml]; rfl) (Steps.refl _) (a := b53) (argsL := [(.int i0)]) (rest := [(.ref b53)]) (lenOf pd_0 rfl) rfl (by show 2 * 0 + _ ≤ _; exact Nat.le_of_eq rfl) (hb hby at_58) (fun vmx hWx => ⟨rfl, e53, (by decide : 2 + 0 ≤ _), (by decide : 2 + 0 ≤ _)⟩)
      dsimp only [Pt.U, Pt.locs, Pt.cells, Pt.slots] at X55 l55 y55 z55 st55 hQ55
      subst l55 y55 z55
      obtain ⟨rv55, Nq55, Kq55, u55_0, u55_1⟩ := hQ55
      subst rv55
      have N55 := Fr.app N33 Nq55
      have K56 := K54.trans Kq55 (allS (Or.inr sz_b53) all0)
      have O56 := O54.keep Kq55 (allS g_b53 all0)
      have ne57 : b31 ≠ b53 := (Nat.ne_of_lt (Nat.lt_of_lt_of_le u33_0.lt (Nat.le_of_eq q53.symm)))
      have f58 := ((u33_1.ext E53).keep Kq55 (ninS ne57 nin0))
      -- pc 126: Blocker$Backend.equals
      have f60 := ((u33_0.ext E53).keep Kq55)
      obtain ⟨cq59, kq59, q59a, q59b, q59c⟩ := isOf hZ rfl f60
      obtain ⟨_, _, ⟨T59, L59, k59, n59⟩, -, X59, ⟨Lc59, hQ59, l59, y59, z59⟩, st59⟩ := X55.virtualBack hx (y := (⟨"com/example/locktop/locktop/snapshot/Blocker$Backend", "equals", "(Ljava/lang/Object;)Z"⟩ : MethodName)) (z := (⟨"com/example/locktop/locktop/snapshot/Blocker$Backend", "equals", "(Ljava/lang/Object;)Z"⟩ : MethodName)) hown (mvT hZ (hw _ (List.mem_of_getElem? (i := 50) rfl))) (mvT hZ (hw _ (List.mem_of_getElem? (i := 51) rfl))) (notFace_of_selects (args := #[]) (mvT hZ (hw _ (List.mem_of_getElem? (i := 53) rfl)))) (mvT hZ (hw _ (List.mem_of_getElem? (i := 53) rfl))) (mvT hZ (hw _ (List.mem_of_getElem? (i := 52) rfl))) (by decide) (backOf (W := 0) (eq_same l Z av0 hw [] b31 b53 i0 i0 (1 : Int32) T55.heap n0 (own_le O56) f58 u55_0 u55_1 (⟨fun _ => rfl, fun h => absurd rfl h⟩ : (i0 = i0 → (1 : Int32) = (1 : Int32)) ∧ (¬ (i0 = i0) → (1 : Int32) = (0 : Int32)))) hZ (hw _ (List.mem_of_getElem? (i := 54) rfl)) (hw _ (List.mem_of_getElem? (i := 2) rfl)) (by decide) (by decide)) q59a q59c (g := (mkF m 126 #[.val (.int i0), .val (.int i1), .val (.int i2), .val (.ref b31), .val (.int ((i2 &&& (2147483647 : Int32)) % (5 : Int32))), .val (.ref b53), .val (.int 1)] [(.ref b53), (.ref b31)])) rfl (by rw [hml]; rfl) (Steps.refl _) (argsL := [(.ref b53)]) (rest := []) (lenOf pd_7 rfl) rfl (by show 2 * 0 + _ ≤ _; exact Nat.le_of_eq rfl) (hb hby at_126) (fun vmx hWx => ⟨rfl, rfl, (by decide : 2 + 0 ≤ _), (by decide : 2 + 0 ≤ _)⟩)
      dsimp only [Pt.U, Pt.locs, Pt.cells, Pt.slots] at X59 l59 y59 z59 st59 hQ59
      subst l59 y59 z59
      obtain ⟨rv59, Nq59, Kq59⟩ := hQ59
      subst rv59
      have N59 := Fr.app N55 Nq59
      obtain ⟨fs, hrL, hrun, hended, hW, hsame⟩ := X59.leave (v := some (.int 1)) (fun h => by rw [Bd.returns] at h; cases h)
      refine ⟨_, _, pre51 _ ?_, hrun, hended, _, _, rfl, ?_, ⟨_, rfl⟩, hW, hsame.mono (by decide) (by decide)⟩
      · show Steps p.tables e below (T33.setTop (mkF m 50 #[.val (.int i0), .val (.int i1), .val (.int i2), .val (.ref b31), .val (.int ((i2 &&& (2147483647 : Int32)) % (5 : Int32))), .unset, .unset] [(.int 1), (.int ((i2 &&& (2147483647 : Int32)) % (5 : Int32)))])) _
        refine XS.icmpNo X33.here hx rfl (hb hby at_50) rfl (teq hc52).2 ?_
        show Steps p.tables e below (T33.setTop (mkF m 53 #[.val (.int i0), .val (.int i1), .val (.int i2), .val (.ref b31), .val (.int ((i2 &&& (2147483647 : Int32)) % (5 : Int32))), .unset, .unset] [])) _
        refine st53 _ ?_
        refine XS.dup X53.here hx rfl (hb hby at_56) rfl rfl ?_
        refine XS.iloadN X53.here hx rfl (hb hby at_57) rfl ?_
        show Steps p.tables e below (T53.setTop (mkF m 58 #[.val (.int i0), .val (.int i1), .val (.int i2), .val (.ref b31), .val (.int ((i2 &&& (2147483647 : Int32)) % (5 : Int32))), .unset, .unset] [(.int i0), (.ref b53), (.ref b53)])) _
        refine st55.trans ?_
        show Steps p.tables e below (T55.setTop (mkF m 61 #[.val (.int i0), .val (.int i1), .val (.int i2), .val (.ref b31), .val (.int ((i2 &&& (2147483647 : Int32)) % (5 : Int32))), .unset, .unset] [(.ref b53)])) _
        refine XS.astore X55.here hx rfl (hb hby at_61) rfl rfl (l' := #[.val (.int i0), .val (.int i1), .val (.int i2), .val (.ref b31), .val (.int ((i2 &&& (2147483647 : Int32)) % (5 : Int32))), .val (.ref b53), .unset]) rfl ?_
        refine XS.iconst X55.here hx rfl (hb hby at_63) ?_
        refine XS.istore X55.here hx rfl (hb hby at_64) rfl (l' := #[.val (.int i0), .val (.int i1), .val (.int i2), .val (.ref b31), .val (.int ((i2 &&& (2147483647 : Int32)) % (5 : Int32))), .val (.ref b53), .val (.int 1)]) rfl ?_
        refine XS.goto X55.here hx rfl (pc0 := 66) (pc' := 123) rfl (hb hby at_66) (by decide) (by decide) ?_
        show Steps p.tables e below (T55.setTop (mkF m 123 #[.val (.int i0), .val (.int i1), .val (.int i2), .val (.ref b31), .val (.int ((i2 &&& (2147483647 : Int32)) % (5 : Int32))), .val (.ref b53), .val (.int 1)] [])) _
        refine XS.aloadN X55.here hx rfl (hb hby at_123) rfl rfl ?_
        refine XS.aload X55.here hx rfl (hb hby at_124) rfl rfl ?_
        show Steps p.tables e below (T55.setTop (mkF m 126 #[.val (.int i0), .val (.int i1), .val (.int i2), .val (.ref b31), .val (.int ((i2 &&& (2147483647 : Int32)) % (5 : Int32))), .val (.ref b53), .val (.int 1)] [(.ref b53), (.ref b31)])) _
        refine st59.trans ?_
        refine XS.iload X59.here hx rfl (hb hby at_129) rfl ?_
        show Steps p.tables e below (T59.setTop (mkF m 131 #[.val (.int i0), .val (.int i1), .val (.int i2), .val (.ref b31), .val (.int ((i2 &&& (2147483647 : Int32)) % (5 : Int32))), .val (.ref b53), .val (.int 1)] [(.int 1), (.int 1)])) _
        refine XS.icmpNo X59.here hx rfl (hb hby at_131) rfl (teq (by decide : (1 : Int32) = (1 : Int32))).2 ?_
        refine XS.iconst X59.here hx rfl (hb hby at_134) ?_
        refine XS.goto X59.here hx rfl (pc0 := 135) (pc' := 139) rfl (hb hby at_135) (by decide) (by decide) ?_
        show Steps p.tables e below (T59.setTop (mkF m 139 #[.val (.int i0), .val (.int i1), .val (.int i2), .val (.ref b31), .val (.int ((i2 &&& (2147483647 : Int32)) % (5 : Int32))), .val (.ref b53), .val (.int 1)] [(.int 1)])) _
        exact retN X59 hx (t := .boolean) Bd.returns (by simp) (hb hby at_139) hrL
      · show Q_rm0 _ _ _ _ _ _ _ _ _ _  T59.heap _
        rw [Kq59]
        exact ⟨rfl, N59, K56⟩
    · skip
      have pre61 : ∀ tz_, Steps p.tables e below (T33.setTop (mkF m 72 #[.val (.int i0), .val (.int i1), .val (.int i2), .val (.ref b31), .val (.int ((i2 &&& (2147483647 : Int32)) % (5 : Int32))), .unset, .unset] [(.int 2), (.int ((i2 &&& (2147483647 : Int32)) % (5 : Int32)))])) tz_ → Steps p.tables e below (s₁.setTop (entryFrame m #[(.int i0), (.int i1), (.int i2)] maxLocals)) tz_ := fun tz_ kk => pre51 tz_ (by
        show Steps p.tables e below (T33.setTop (mkF m 50 #[.val (.int i0), .val (.int i1), .val (.int i2), .val (.ref b31), .val (.int ((i2 &&& (2147483647 : Int32)) % (5 : Int32))), .unset, .unset] [(.int 1), (.int ((i2 &&& (2147483647 : Int32)) % (5 : Int32)))])) _
        refine XS.icmpYes X33.here hx rfl (pc0 := 50) (pc' := 69) rfl (hb hby at_50) rfl (feq hc52).2 (by decide) (by decide) ?_
        show Steps p.tables e below (T33.setTop (mkF m 69 #[.val (.int i0), .val (.int i1), .val (.int i2), .val (.ref b31), .val (.int ((i2 &&& (2147483647 : Int32)) % (5 : Int32))), .unset, .unset] [])) _
        refine XS.iload X33.here hx rfl (hb hby at_69) rfl ?_
        refine XS.iconst X33.here hx rfl (hb hby at_71) ?_
        exact kk)
      by_cases hc62 : ((i2 &&& (2147483647 : Int32)) % (5 : Int32)) = (2 : Int32)
      · skip
        obtain ⟨T63, h63, X63, e63, E63, A63, D63, -, st63⟩ := newO X33 hx hZ hown (hw _ (List.mem_of_getElem? (i := 17) rfl)) (hw _ (List.mem_of_getElem? (i := 18) rfl)) (hw _ (List.mem_of_getElem? (i := 19) rfl)) rfl (g := (mkF m 75 #[.val (.int i0), .val (.int i1), .val (.int i2), .val (.ref b31), .val (.int ((i2 &&& (2147483647 : Int32)) % (5 : Int32))), .unset, .unset] [])) rfl (hb hby at_75) (by decide) (by decide)
        obtain ⟨b63, q63⟩ : ∃ z, z = T33.heap.size := ⟨_, rfl⟩
        rw [← q63] at A63 D63 st63
        have g_b63 : n0 ≤ b63 := Nat.le_trans (own_le O34) (Nat.le_of_eq q63.symm)
        have sz_b63 : h0.size ≤ b63 := Nat.le_trans K34.1 (Nat.le_of_eq q63.symm)
        have K64 := K34.ext E63
        have O64 := O34.ext E63
        have F63_gid : Fld Z h63 b63 "com/example/locktop/locktop/snapshot/Blocker$Prepared" "gid" "Ljava/lang/String;" .null := D63 (Or.inr (hw _ (List.mem_of_getElem? (i := 49) rfl))) (ty := (.object "java/lang/String")) (by decide)
        -- pc 85: String.valueOf
        obtain ⟨_, _, ⟨T65, L65, k65, n65⟩, -, X65, ⟨Lc65, hQ65, l65, y65, z65⟩, st65⟩ := Jvm.LawKit.callS X63 hx (y := (⟨"java/lang/String", "valueOf", "(C)Ljava/lang/String;"⟩ : MethodName)) hown (mvT hZ (hw _ (List.mem_of_getElem? (i := 20) rfl))) (mvT hZ (hw _ (List.mem_of_getElem? (i := 21) rfl))) (mvT hZ (hw _ (List.mem_of_getElem? (i := 22) rfl))) (mvT hZ (hw _ (List.mem_of_getElem? (i := 23) rfl))) (by decide) (backOf (W := 2) (rm4 l Z av0 hw [] (i1 &&& (255 : Int32)) cs h63 n0 (own_le O64) O64 p1_S (hcs : ¬ (cs = (0 : Int32))) (own_255 i1 : ¬ ((255 : Int32) < (i1 &&& (255 : Int32))))) hZ (hw _ (List.mem_of_getElem? (i := 23) rfl)) (hw _ (List.mem_of_getElem? (i := 22) rfl)) (by decide) (by decide)) (g := (mkF m 85 #[.val (.int i0), .val (.int i1), .val (.int i2), .val (.ref b31), .val (.int ((i2 &&& (2147483647 : Int32)) % (5 : Int32))), .unset, .unset] [(.int (i1 &&& (255 : Int32))), (.ref b63), (.ref b63)])) rfl (by rw [hml]; rfl) (argsL := [(.int (i1 &&& (255 : Int32)))]) (rest := [(.ref b63), (.ref b63)]) (lenOf pd_2 rfl) rfl (by show 2 * 0 + _ ≤ _; exact Nat.le_of_eq rfl) (hb hby at_85) (fun vmx hWx => ⟨rfl, e63, (by decide : 2 + 2 ≤ _), (by decide : 2 + 5 ≤ _)⟩)
        dsimp only [Pt.U, Pt.locs, Pt.cells, Pt.slots] at X65 l65 y65 z65 st65 hQ65
        subst l65 y65 z65
        obtain ⟨b_65, vb_65, kb_65, rv65, Nq65, Kq65, u65_0, u65_1, u65_2, u65_3, u65_4, u65_5, u65_6⟩ := hQ65
        subst rv65
        have N65 := Fr.app N33 Nq65
        have g_b_65 : n0 ≤ b_65 := Nat.le_trans (own_le O64) u65_0
        have sz_b_65 : h0.size ≤ b_65 := Nat.le_trans K64.1 u65_0
        have g_vb_65 : n0 ≤ vb_65 := Nat.le_trans (own_le O64) u65_1
        have sz_vb_65 : h0.size ≤ vb_65 := Nat.le_trans K64.1 u65_1
        have K66 := K64.trans Kq65 all0
        have O66 := O64.keep Kq65 all0
        have f67 := (A63.keep Kq65)
        have f68 := (F63_gid.keep Kq65 nin0)
        -- pc 88: Blocker$Prepared.init
        obtain ⟨_, _, ⟨T69, L69, k69, n69⟩, -, X69, ⟨Lc69, hQ69, l69, y69, z69⟩, st69⟩ := X65.specialBack hx (y := (⟨"com/example/locktop/locktop/snapshot/Blocker$Prepared", "<init>", "(Ljava/lang/String;)V"⟩ : MethodName)) rfl hown (mvT hZ (hw _ (List.mem_of_getElem? (i := 44) rfl))) (mvT hZ (hw _ (List.mem_of_getElem? (i := 45) rfl))) (mvT hZ (hw _ (List.mem_of_getElem? (i := 46) rfl))) (by decide) (backOf (W := 1) (rm8 l Z av0 hw [] b63 b_65 T65.heap n0 (own_le O66) f67 f68 g_b63) hZ (hw _ (List.mem_of_getElem? (i := 46) rfl)) (hw _ (List.mem_of_getElem? (i := 19) rfl)) (by decide) (by decide)) (g := (mkF m 88 #[.val (.int i0), .val (.int i1), .val (.int i2), .val (.ref b31), .val (.int ((i2 &&& (2147483647 : Int32)) % (5 : Int32))), .unset, .unset] [(.ref b_65), (.ref b63), (.ref b63)])) rfl (by rw [hml]; rfl) (Steps.refl _) (a := b63) (argsL := [(.ref b_65)]) (rest := [(.ref b63)]) (lenOf pd_6 rfl) rfl (by show 2 * 0 + _ ≤ _; exact Nat.le_of_eq rfl) (hb hby at_88) (fun vmx hWx => ⟨rfl, rfl, (by decide : 4 + 0 ≤ _), (by decide : 7 + 0 ≤ _)⟩)
        dsimp only [Pt.U, Pt.locs, Pt.cells, Pt.slots] at X69 l69 y69 z69 st69 hQ69
        subst l69 y69 z69
        obtain ⟨rv69, Nq69, Kq69, u69_0, u69_1⟩ := hQ69
        subst rv69
        have N69 := Fr.app N65 Nq69
        have K70 := K66.trans Kq69 (allS (Or.inr sz_b63) all0)
        have O70 := O66.keep Kq69 (allS g_b63 all0)
        -- pc 126: Blocker$Backend.equals
        have f72 := (((u33_0.ext E63).keep Kq65).keep Kq69)
        obtain ⟨cq71, kq71, q71a, q71b, q71c⟩ := isOf hZ rfl f72
        obtain ⟨_, _, ⟨T71, L71, k71, n71⟩, -, X71, ⟨Lc71, hQ71, l71, y71, z71⟩, st71⟩ := X69.virtualBack hx (y := (⟨"com/example/locktop/locktop/snapshot/Blocker$Backend", "equals", "(Ljava/lang/Object;)Z"⟩ : MethodName)) (z := (⟨"com/example/locktop/locktop/snapshot/Blocker$Backend", "equals", "(Ljava/lang/Object;)Z"⟩ : MethodName)) hown (mvT hZ (hw _ (List.mem_of_getElem? (i := 50) rfl))) (mvT hZ (hw _ (List.mem_of_getElem? (i := 51) rfl))) (notFace_of_selects (args := #[]) (mvT hZ (hw _ (List.mem_of_getElem? (i := 53) rfl)))) (mvT hZ (hw _ (List.mem_of_getElem? (i := 53) rfl))) (mvT hZ (hw _ (List.mem_of_getElem? (i := 52) rfl))) (by decide) (backOf (W := 0) (eq_prep l Z av0 hw [] b31 b63 T69.heap n0 (own_le O70) u69_0) hZ (hw _ (List.mem_of_getElem? (i := 54) rfl)) (hw _ (List.mem_of_getElem? (i := 2) rfl)) (by decide) (by decide)) q71a q71c (g := (mkF m 126 #[.val (.int i0), .val (.int i1), .val (.int i2), .val (.ref b31), .val (.int ((i2 &&& (2147483647 : Int32)) % (5 : Int32))), .val (.ref b63), .val (.int 0)] [(.ref b63), (.ref b31)])) rfl (by rw [hml]; rfl) (Steps.refl _) (argsL := [(.ref b63)]) (rest := []) (lenOf pd_7 rfl) rfl (by show 2 * 0 + _ ≤ _; exact Nat.le_of_eq rfl) (hb hby at_126) (fun vmx hWx => ⟨rfl, rfl, (by decide : 4 + 0 ≤ _), (by decide : 7 + 0 ≤ _)⟩)
        dsimp only [Pt.U, Pt.locs, Pt.cells, Pt.slots] at X71 l71 y71 z71 st71 hQ71
        subst l71 y71 z71
        obtain ⟨rv71, Nq71, Kq71⟩ := hQ71
        subst rv71
        have N71 := Fr.app N69 Nq71
        obtain ⟨fs, hrL, hrun, hended, hW, hsame⟩ := X71.leave (v := some (.int 1)) (fun h => by rw [Bd.returns] at h; cases h)
        refine ⟨_, _, pre61 _ ?_, hrun, hended, _, _, rfl, ?_, ⟨_, rfl⟩, hW, hsame.mono (by decide) (by decide)⟩
        · show Steps p.tables e below (T33.setTop (mkF m 72 #[.val (.int i0), .val (.int i1), .val (.int i2), .val (.ref b31), .val (.int ((i2 &&& (2147483647 : Int32)) % (5 : Int32))), .unset, .unset] [(.int 2), (.int ((i2 &&& (2147483647 : Int32)) % (5 : Int32)))])) _
          refine XS.icmpNo X33.here hx rfl (hb hby at_72) rfl (teq hc62).2 ?_
          show Steps p.tables e below (T33.setTop (mkF m 75 #[.val (.int i0), .val (.int i1), .val (.int i2), .val (.ref b31), .val (.int ((i2 &&& (2147483647 : Int32)) % (5 : Int32))), .unset, .unset] [])) _
          refine st63 _ ?_
          show Steps p.tables e below (T63.setTop (mkF m 78 #[.val (.int i0), .val (.int i1), .val (.int i2), .val (.ref b31), .val (.int ((i2 &&& (2147483647 : Int32)) % (5 : Int32))), .unset, .unset] [(.ref b63)])) _
          refine XS.dup X63.here hx rfl (hb hby at_78) rfl rfl ?_
          refine XS.iloadN X63.here hx rfl (hb hby at_79) rfl ?_
          refine XS.sipush X63.here hx rfl (hb hby at_80) ?_
          show Steps p.tables e below (T63.setTop (mkF m 83 #[.val (.int i0), .val (.int i1), .val (.int i2), .val (.ref b31), .val (.int ((i2 &&& (2147483647 : Int32)) % (5 : Int32))), .unset, .unset] [(.int 255), (.int i1), (.ref b63), (.ref b63)])) _
          refine XS.iand X63.here hx rfl (hb hby at_83) rfl ?_
          show Steps p.tables e below (T63.setTop (mkF m 84 #[.val (.int i0), .val (.int i1), .val (.int i2), .val (.ref b31), .val (.int ((i2 &&& (2147483647 : Int32)) % (5 : Int32))), .unset, .unset] [(.int (i1 &&& (255 : Int32))), (.ref b63), (.ref b63)])) _
          refine XS.i2c X63.here hx rfl (hb hby at_84) rfl ?_
          show Steps p.tables e below (T63.setTop (mkF m 85 #[.val (.int i0), .val (.int i1), .val (.int i2), .val (.ref b31), .val (.int ((i2 &&& (2147483647 : Int32)) % (5 : Int32))), .unset, .unset] [(.int ((i1 &&& (255 : Int32)).toUInt32.toUInt16.toUInt32.toInt32)), (.ref b63), (.ref b63)])) _
          rw [i2c_mask]
          show Steps p.tables e below (T63.setTop (mkF m 85 #[.val (.int i0), .val (.int i1), .val (.int i2), .val (.ref b31), .val (.int ((i2 &&& (2147483647 : Int32)) % (5 : Int32))), .unset, .unset] [(.int (i1 &&& (255 : Int32))), (.ref b63), (.ref b63)])) _
          refine st65 _ ?_
          show Steps p.tables e below (T65.setTop (mkF m 88 #[.val (.int i0), .val (.int i1), .val (.int i2), .val (.ref b31), .val (.int ((i2 &&& (2147483647 : Int32)) % (5 : Int32))), .unset, .unset] [(.ref b_65), (.ref b63), (.ref b63)])) _
          refine st69.trans ?_
          refine XS.astore X69.here hx rfl (hb hby at_91) rfl rfl (l' := #[.val (.int i0), .val (.int i1), .val (.int i2), .val (.ref b31), .val (.int ((i2 &&& (2147483647 : Int32)) % (5 : Int32))), .val (.ref b63), .unset]) rfl ?_
          show Steps p.tables e below (T69.setTop (mkF m 93 #[.val (.int i0), .val (.int i1), .val (.int i2), .val (.ref b31), .val (.int ((i2 &&& (2147483647 : Int32)) % (5 : Int32))), .val (.ref b63), .unset] [])) _
          refine XS.iconst X69.here hx rfl (hb hby at_93) ?_
          refine XS.istore X69.here hx rfl (hb hby at_94) rfl (l' := #[.val (.int i0), .val (.int i1), .val (.int i2), .val (.ref b31), .val (.int ((i2 &&& (2147483647 : Int32)) % (5 : Int32))), .val (.ref b63), .val (.int 0)]) rfl ?_
          refine XS.goto X69.here hx rfl (pc0 := 96) (pc' := 123) rfl (hb hby at_96) (by decide) (by decide) ?_
          refine XS.aloadN X69.here hx rfl (hb hby at_123) rfl rfl ?_
          show Steps p.tables e below (T69.setTop (mkF m 124 #[.val (.int i0), .val (.int i1), .val (.int i2), .val (.ref b31), .val (.int ((i2 &&& (2147483647 : Int32)) % (5 : Int32))), .val (.ref b63), .val (.int 0)] [(.ref b31)])) _
          refine XS.aload X69.here hx rfl (hb hby at_124) rfl rfl ?_
          show Steps p.tables e below (T69.setTop (mkF m 126 #[.val (.int i0), .val (.int i1), .val (.int i2), .val (.ref b31), .val (.int ((i2 &&& (2147483647 : Int32)) % (5 : Int32))), .val (.ref b63), .val (.int 0)] [(.ref b63), (.ref b31)])) _
          refine st71.trans ?_
          refine XS.iload X71.here hx rfl (hb hby at_129) rfl ?_
          show Steps p.tables e below (T71.setTop (mkF m 131 #[.val (.int i0), .val (.int i1), .val (.int i2), .val (.ref b31), .val (.int ((i2 &&& (2147483647 : Int32)) % (5 : Int32))), .val (.ref b63), .val (.int 0)] [(.int 0), (.int 0)])) _
          refine XS.icmpNo X71.here hx rfl (hb hby at_131) rfl (teq (by decide : (0 : Int32) = (0 : Int32))).2 ?_
          show Steps p.tables e below (T71.setTop (mkF m 134 #[.val (.int i0), .val (.int i1), .val (.int i2), .val (.ref b31), .val (.int ((i2 &&& (2147483647 : Int32)) % (5 : Int32))), .val (.ref b63), .val (.int 0)] [])) _
          refine XS.iconst X71.here hx rfl (hb hby at_134) ?_
          refine XS.goto X71.here hx rfl (pc0 := 135) (pc' := 139) rfl (hb hby at_135) (by decide) (by decide) ?_
          show Steps p.tables e below (T71.setTop (mkF m 139 #[.val (.int i0), .val (.int i1), .val (.int i2), .val (.ref b31), .val (.int ((i2 &&& (2147483647 : Int32)) % (5 : Int32))), .val (.ref b63), .val (.int 0)] [(.int 1)])) _
          exact retN X71 hx (t := .boolean) Bd.returns (by simp) (hb hby at_139) hrL
        · show Q_rm0 _ _ _ _ _ _ _ _ _ _  T71.heap _
          rw [Kq71]
          exact ⟨rfl, N71, K70⟩
      · skip
        have pre73 : ∀ tz_, Steps p.tables e below (T33.setTop (mkF m 102 #[.val (.int i0), .val (.int i1), .val (.int i2), .val (.ref b31), .val (.int ((i2 &&& (2147483647 : Int32)) % (5 : Int32))), .unset, .unset] [(.int 3), (.int ((i2 &&& (2147483647 : Int32)) % (5 : Int32)))])) tz_ → Steps p.tables e below (s₁.setTop (entryFrame m #[(.int i0), (.int i1), (.int i2)] maxLocals)) tz_ := fun tz_ kk => pre61 tz_ (by
          show Steps p.tables e below (T33.setTop (mkF m 72 #[.val (.int i0), .val (.int i1), .val (.int i2), .val (.ref b31), .val (.int ((i2 &&& (2147483647 : Int32)) % (5 : Int32))), .unset, .unset] [(.int 2), (.int ((i2 &&& (2147483647 : Int32)) % (5 : Int32)))])) _
          refine XS.icmpYes X33.here hx rfl (pc0 := 72) (pc' := 99) rfl (hb hby at_72) rfl (feq hc62).2 (by decide) (by decide) ?_
          refine XS.iload X33.here hx rfl (hb hby at_99) rfl ?_
          show Steps p.tables e below (T33.setTop (mkF m 101 #[.val (.int i0), .val (.int i1), .val (.int i2), .val (.ref b31), .val (.int ((i2 &&& (2147483647 : Int32)) % (5 : Int32))), .unset, .unset] [(.int ((i2 &&& (2147483647 : Int32)) % (5 : Int32)))])) _
          refine XS.iconst X33.here hx rfl (hb hby at_101) ?_
          exact kk)
        by_cases hc74 : ((i2 &&& (2147483647 : Int32)) % (5 : Int32)) = (3 : Int32)
        · skip
          -- pc 106: Integer.valueOf
          obtain ⟨_, _, ⟨T75, L75, k75, n75⟩, -, X75, ⟨Lc75, hQ75, l75, y75, z75⟩, st75⟩ := Jvm.LawKit.callS X33 hx (y := (⟨"java/lang/Integer", "valueOf", "(I)Ljava/lang/Integer;"⟩ : MethodName)) hown (mvT hZ (hw _ (List.mem_of_getElem? (i := 59) rfl))) (mvT hZ (hw _ (List.mem_of_getElem? (i := 60) rfl))) (mvT hZ (hw _ (List.mem_of_getElem? (i := 61) rfl))) (mvT hZ (hw _ (List.mem_of_getElem? (i := 62) rfl))) (by decide) (backOf (W := 0) (rm10 l Z av0 hw [] i0 ca cl T33.heap n0 (own_le O34) O34 p3_S p4_S (hbx : Bxs Z ca cl "java/lang/Integer" "I" (256 : Int32) (fun j => Value.int (j - (128 : Int32))))) hZ (hw _ (List.mem_of_getElem? (i := 62) rfl)) (hw _ (List.mem_of_getElem? (i := 61) rfl)) (by decide) (by decide)) (g := (mkF m 106 #[.val (.int i0), .val (.int i1), .val (.int i2), .val (.ref b31), .val (.int ((i2 &&& (2147483647 : Int32)) % (5 : Int32))), .unset, .unset] [(.int i0)])) rfl (by rw [hml]; rfl) (argsL := [(.int i0)]) (rest := []) (lenOf pd_8 rfl) rfl (by show 2 * 0 + _ ≤ _; exact Nat.le_of_eq rfl) (hb hby at_106) (fun vmx hWx => ⟨rfl, rfl, (by decide : 1 + 1 ≤ _), (by decide : 1 + 1 ≤ _)⟩)
          dsimp only [Pt.U, Pt.locs, Pt.cells, Pt.slots] at X75 l75 y75 z75 st75 hQ75
          subst l75 y75 z75
          obtain ⟨r_75, rv75, Nq75, Kq75, u75_0⟩ := hQ75
          subst rv75
          have N75 := Fr.app N33 Nq75
          have K76 := K34.trans Kq75 all0
          have O76 := O34.keep Kq75 all0
          -- pc 126: Blocker$Backend.equals
          have f78 := (u33_0.keep Kq75)
          obtain ⟨cq77, kq77, q77a, q77b, q77c⟩ := isOf hZ rfl f78
          obtain ⟨_, _, ⟨T77, L77, k77, n77⟩, -, X77, ⟨Lc77, hQ77, l77, y77, z77⟩, st77⟩ := X75.virtualBack hx (y := (⟨"com/example/locktop/locktop/snapshot/Blocker$Backend", "equals", "(Ljava/lang/Object;)Z"⟩ : MethodName)) (z := (⟨"com/example/locktop/locktop/snapshot/Blocker$Backend", "equals", "(Ljava/lang/Object;)Z"⟩ : MethodName)) hown (mvT hZ (hw _ (List.mem_of_getElem? (i := 50) rfl))) (mvT hZ (hw _ (List.mem_of_getElem? (i := 51) rfl))) (notFace_of_selects (args := #[]) (mvT hZ (hw _ (List.mem_of_getElem? (i := 53) rfl)))) (mvT hZ (hw _ (List.mem_of_getElem? (i := 53) rfl))) (mvT hZ (hw _ (List.mem_of_getElem? (i := 52) rfl))) (by decide) (backOf (W := 0) (eq_int l Z av0 hw [] b31 r_75 T75.heap n0 (own_le O76) u75_0) hZ (hw _ (List.mem_of_getElem? (i := 54) rfl)) (hw _ (List.mem_of_getElem? (i := 2) rfl)) (by decide) (by decide)) q77a q77c (g := (mkF m 126 #[.val (.int i0), .val (.int i1), .val (.int i2), .val (.ref b31), .val (.int ((i2 &&& (2147483647 : Int32)) % (5 : Int32))), .val (.ref r_75), .val (.int 0)] [(.ref r_75), (.ref b31)])) rfl (by rw [hml]; rfl) (Steps.refl _) (argsL := [(.ref r_75)]) (rest := []) (lenOf pd_7 rfl) rfl (by show 2 * 0 + _ ≤ _; exact Nat.le_of_eq rfl) (hb hby at_126) (fun vmx hWx => ⟨rfl, rfl, (by decide : 2 + 0 ≤ _), (by decide : 2 + 0 ≤ _)⟩)
          dsimp only [Pt.U, Pt.locs, Pt.cells, Pt.slots] at X77 l77 y77 z77 st77 hQ77
          subst l77 y77 z77
          obtain ⟨rv77, Nq77, Kq77⟩ := hQ77
          subst rv77
          have N77 := Fr.app N75 Nq77
          obtain ⟨fs, hrL, hrun, hended, hW, hsame⟩ := X77.leave (v := some (.int 1)) (fun h => by rw [Bd.returns] at h; cases h)
          refine ⟨_, _, pre73 _ ?_, hrun, hended, _, _, rfl, ?_, ⟨_, rfl⟩, hW, hsame.mono (by decide) (by decide)⟩
          · show Steps p.tables e below (T33.setTop (mkF m 102 #[.val (.int i0), .val (.int i1), .val (.int i2), .val (.ref b31), .val (.int ((i2 &&& (2147483647 : Int32)) % (5 : Int32))), .unset, .unset] [(.int 3), (.int ((i2 &&& (2147483647 : Int32)) % (5 : Int32)))])) _
            refine XS.icmpNo X33.here hx rfl (hb hby at_102) rfl (teq hc74).2 ?_
            refine XS.iloadN X33.here hx rfl (hb hby at_105) rfl ?_
            show Steps p.tables e below (T33.setTop (mkF m 106 #[.val (.int i0), .val (.int i1), .val (.int i2), .val (.ref b31), .val (.int ((i2 &&& (2147483647 : Int32)) % (5 : Int32))), .unset, .unset] [(.int i0)])) _
            refine st75 _ ?_
            show Steps p.tables e below (T75.setTop (mkF m 109 #[.val (.int i0), .val (.int i1), .val (.int i2), .val (.ref b31), .val (.int ((i2 &&& (2147483647 : Int32)) % (5 : Int32))), .unset, .unset] [(.ref r_75)])) _
            refine XS.astore X75.here hx rfl (hb hby at_109) rfl rfl (l' := #[.val (.int i0), .val (.int i1), .val (.int i2), .val (.ref b31), .val (.int ((i2 &&& (2147483647 : Int32)) % (5 : Int32))), .val (.ref r_75), .unset]) rfl ?_
            refine XS.iconst X75.here hx rfl (hb hby at_111) ?_
            refine XS.istore X75.here hx rfl (hb hby at_112) rfl (l' := #[.val (.int i0), .val (.int i1), .val (.int i2), .val (.ref b31), .val (.int ((i2 &&& (2147483647 : Int32)) % (5 : Int32))), .val (.ref r_75), .val (.int 0)]) rfl ?_
            refine XS.goto X75.here hx rfl (pc0 := 114) (pc' := 123) rfl (hb hby at_114) (by decide) (by decide) ?_
            show Steps p.tables e below (T75.setTop (mkF m 123 #[.val (.int i0), .val (.int i1), .val (.int i2), .val (.ref b31), .val (.int ((i2 &&& (2147483647 : Int32)) % (5 : Int32))), .val (.ref r_75), .val (.int 0)] [])) _
            refine XS.aloadN X75.here hx rfl (hb hby at_123) rfl rfl ?_
            refine XS.aload X75.here hx rfl (hb hby at_124) rfl rfl ?_
            show Steps p.tables e below (T75.setTop (mkF m 126 #[.val (.int i0), .val (.int i1), .val (.int i2), .val (.ref b31), .val (.int ((i2 &&& (2147483647 : Int32)) % (5 : Int32))), .val (.ref r_75), .val (.int 0)] [(.ref r_75), (.ref b31)])) _
            refine st77.trans ?_
            refine XS.iload X77.here hx rfl (hb hby at_129) rfl ?_
            show Steps p.tables e below (T77.setTop (mkF m 131 #[.val (.int i0), .val (.int i1), .val (.int i2), .val (.ref b31), .val (.int ((i2 &&& (2147483647 : Int32)) % (5 : Int32))), .val (.ref r_75), .val (.int 0)] [(.int 0), (.int 0)])) _
            refine XS.icmpNo X77.here hx rfl (hb hby at_131) rfl (teq (by decide : (0 : Int32) = (0 : Int32))).2 ?_
            refine XS.iconst X77.here hx rfl (hb hby at_134) ?_
            refine XS.goto X77.here hx rfl (pc0 := 135) (pc' := 139) rfl (hb hby at_135) (by decide) (by decide) ?_
            show Steps p.tables e below (T77.setTop (mkF m 139 #[.val (.int i0), .val (.int i1), .val (.int i2), .val (.ref b31), .val (.int ((i2 &&& (2147483647 : Int32)) % (5 : Int32))), .val (.ref r_75), .val (.int 0)] [(.int 1)])) _
            exact retN X77 hx (t := .boolean) Bd.returns (by simp) (hb hby at_139) hrL
          · show Q_rm0 _ _ _ _ _ _ _ _ _ _  T77.heap _
            rw [Kq77]
            exact ⟨rfl, N77, K76⟩
        · skip
          -- pc 126: Blocker$Backend.equals
          obtain ⟨cq79, kq79, q79a, q79b, q79c⟩ := isOf hZ rfl u33_0
          obtain ⟨_, _, ⟨T79, L79, k79, n79⟩, -, X79, ⟨Lc79, hQ79, l79, y79, z79⟩, st79⟩ := X33.virtualBack hx (y := (⟨"com/example/locktop/locktop/snapshot/Blocker$Backend", "equals", "(Ljava/lang/Object;)Z"⟩ : MethodName)) (z := (⟨"com/example/locktop/locktop/snapshot/Blocker$Backend", "equals", "(Ljava/lang/Object;)Z"⟩ : MethodName)) hown (mvT hZ (hw _ (List.mem_of_getElem? (i := 50) rfl))) (mvT hZ (hw _ (List.mem_of_getElem? (i := 51) rfl))) (notFace_of_selects (args := #[]) (mvT hZ (hw _ (List.mem_of_getElem? (i := 53) rfl)))) (mvT hZ (hw _ (List.mem_of_getElem? (i := 53) rfl))) (mvT hZ (hw _ (List.mem_of_getElem? (i := 52) rfl))) (by decide) (backOf (W := 0) (eq_null l Z av0 hw [] b31 T33.heap n0 (own_le O34) ) hZ (hw _ (List.mem_of_getElem? (i := 54) rfl)) (hw _ (List.mem_of_getElem? (i := 2) rfl)) (by decide) (by decide)) q79a q79c (g := (mkF m 126 #[.val (.int i0), .val (.int i1), .val (.int i2), .val (.ref b31), .val (.int ((i2 &&& (2147483647 : Int32)) % (5 : Int32))), .val .null, .val (.int 0)] [.null, (.ref b31)])) rfl (by rw [hml]; rfl) (Steps.refl _) (argsL := [.null]) (rest := []) (lenOf pd_7 rfl) rfl (by show 2 * 0 + _ ≤ _; exact Nat.le_of_eq rfl) (hb hby at_126) (fun vmx hWx => ⟨rfl, rfl, (by decide : 1 + 0 ≤ _), (by decide : 1 + 0 ≤ _)⟩)
          dsimp only [Pt.U, Pt.locs, Pt.cells, Pt.slots] at X79 l79 y79 z79 st79 hQ79
          subst l79 y79 z79
          obtain ⟨rv79, Nq79, Kq79⟩ := hQ79
          subst rv79
          have N79 := Fr.app N33 Nq79
          obtain ⟨fs, hrL, hrun, hended, hW, hsame⟩ := X79.leave (v := some (.int 1)) (fun h => by rw [Bd.returns] at h; cases h)
          refine ⟨_, _, pre73 _ ?_, hrun, hended, _, _, rfl, ?_, ⟨_, rfl⟩, hW, hsame.mono (by decide) (by decide)⟩
          · show Steps p.tables e below (T33.setTop (mkF m 102 #[.val (.int i0), .val (.int i1), .val (.int i2), .val (.ref b31), .val (.int ((i2 &&& (2147483647 : Int32)) % (5 : Int32))), .unset, .unset] [(.int 3), (.int ((i2 &&& (2147483647 : Int32)) % (5 : Int32)))])) _
            refine XS.icmpYes X33.here hx rfl (pc0 := 102) (pc' := 117) rfl (hb hby at_102) rfl (feq hc74).2 (by decide) (by decide) ?_
            show Steps p.tables e below (T33.setTop (mkF m 117 #[.val (.int i0), .val (.int i1), .val (.int i2), .val (.ref b31), .val (.int ((i2 &&& (2147483647 : Int32)) % (5 : Int32))), .unset, .unset] [])) _
            refine XS.aconstNull X33.here hx rfl (hb hby at_117) ?_
            refine XS.astore X33.here hx rfl (hb hby at_118) rfl rfl (l' := #[.val (.int i0), .val (.int i1), .val (.int i2), .val (.ref b31), .val (.int ((i2 &&& (2147483647 : Int32)) % (5 : Int32))), .val .null, .unset]) rfl ?_
            refine XS.iconst X33.here hx rfl (hb hby at_120) ?_
            refine XS.istore X33.here hx rfl (hb hby at_121) rfl (l' := #[.val (.int i0), .val (.int i1), .val (.int i2), .val (.ref b31), .val (.int ((i2 &&& (2147483647 : Int32)) % (5 : Int32))), .val .null, .val (.int 0)]) rfl ?_
            show Steps p.tables e below (T33.setTop (mkF m 123 #[.val (.int i0), .val (.int i1), .val (.int i2), .val (.ref b31), .val (.int ((i2 &&& (2147483647 : Int32)) % (5 : Int32))), .val .null, .val (.int 0)] [])) _
            refine XS.aloadN X33.here hx rfl (hb hby at_123) rfl rfl ?_
            refine XS.aload X33.here hx rfl (hb hby at_124) rfl rfl ?_
            show Steps p.tables e below (T33.setTop (mkF m 126 #[.val (.int i0), .val (.int i1), .val (.int i2), .val (.ref b31), .val (.int ((i2 &&& (2147483647 : Int32)) % (5 : Int32))), .val .null, .val (.int 0)] [.null, (.ref b31)])) _
            refine st79.trans ?_
            refine XS.iload X79.here hx rfl (hb hby at_129) rfl ?_
            show Steps p.tables e below (T79.setTop (mkF m 131 #[.val (.int i0), .val (.int i1), .val (.int i2), .val (.ref b31), .val (.int ((i2 &&& (2147483647 : Int32)) % (5 : Int32))), .val .null, .val (.int 0)] [(.int 0), (.int 0)])) _
            refine XS.icmpNo X79.here hx rfl (hb hby at_131) rfl (teq (by decide : (0 : Int32) = (0 : Int32))).2 ?_
            refine XS.iconst X79.here hx rfl (hb hby at_134) ?_
            refine XS.goto X79.here hx rfl (pc0 := 135) (pc' := 139) rfl (hb hby at_135) (by decide) (by decide) ?_
            show Steps p.tables e below (T79.setTop (mkF m 139 #[.val (.int i0), .val (.int i1), .val (.int i2), .val (.ref b31), .val (.int ((i2 &&& (2147483647 : Int32)) % (5 : Int32))), .val .null, .val (.int 0)] [(.int 1)])) _
            exact retN X79 hx (t := .boolean) Bd.returns (by simp) (hb hby at_139) hrL
          · show Q_rm0 _ _ _ _ _ _ _ _ _ _  T79.heap _
            rw [Kq79]
            exact ⟨rfl, N79, K34⟩
theorem own_len {args : Array Value} {s : State} {t : Term} {x : Addr} {c : Cell} {z : Int32} (ht : t.eval args s none [] s = some (.ref x)) (ha : s.arrayAt? x = some c) (h : (Term.length t).eval args s none [] s = some (.int z)) : c.slots.size < 2 ^ 31 ∧ c.slots.size.toInt32 = z := by
  simp only [Term.eval, ht, ha, Option.bind_eq_bind, Option.bind_some] at h
  split at h
  · exact ⟨by assumption, by simpa using h⟩
  · simp at h
theorem own_sub {args : Array Value} {s : State} {j : Int32} (hj : ¬ j < 0) : (Term.sub (Term.index 0) (Term.int (128 : Int32))).eval args s none [j.toNatClampNeg] s = some (.int (j - (128 : Int32))) := by
  have h := idx_at (args := args) (s := s) (first := s) (o := none) hj
  simp [Term.eval] at h ⊢
  rw [h]
set_option maxRecDepth 65536 in
set_option maxHeartbeats 40000000 in
theorem comes_1 {Post : Tables → Env → Array Value → State → Outcome → State → Prop} (hpost : ∀ tb e args s v u, (limb_1_1.after args s (.returned v) u = true ∧ limb_1_2.after args s (.returned v) u = true ∧ True) → FrameEnd s (.returned v) u (Jvm.fieldLocs frame_1_writes args s ++ Jvm.arrayLocs frame_1_arrays args s ++ Jvm.staticLocs frame_1_statics s) 16 128 → Post tb e args s (.returned v) u) :
    ArmFor flags0 classFile x code maxLocals ret World_1 tables_1 room_1 Calls_1 rest_1 Pre_1 Post := by
  intro l hfl _ _ p e ha hc hk s m args below hf hA hF happ hP
  obtain ⟨hcalls, hrest, hpre⟩ := hP
  obtain ⟨-, -, -, hnamed, -, -, -, hat⟩ := (Spec.applies_iff hf).mp happ
  obtain ⟨hg, hn⟩ := and_e (Cond.before_iff.mp (show (Jvm.Cond.and given_1 narrow_1).before args s = true from hpre))
  obtain ⟨g1, g2⟩ := and_e hg
  obtain ⟨g3, g4⟩ := and_e g2
  obtain ⟨g5, g6⟩ := and_e g4
  obtain ⟨w0, w1, w2, rfl⟩ : ∃ w0 w1 w2 : Value, args = #[w0, w1, w2] := by
    have hs : args.size = 3 := by simpa [Cond.value, given_1] using g1
    obtain ⟨L⟩ := args
    match L, hs with
    | [w0, w1, w2], _ => exact ⟨w0, w1, w2, rfl⟩
  have hw := fun d (hd : d ∈ tables_1) => atoms_spec (ws := Jvm.Cond.code x code maxLocals ret :: tables_1) hat d (List.mem_cons_of_mem _ hd)
  have hfit : Fit s := fun {y c} hc i hi => by
    obtain ⟨ha, rfl⟩ := Array.getElem?_eq_some_iff.mp hc
    have q := List.all_eq_true.mp ((Array.all_eq_true_iff_forall_mem.mp hF) _ (Array.getElem_mem ha)) i (List.mem_range.mpr hi)
    simpa [Array.getElem?_eq_getElem hi] using q
  obtain ⟨hsets, hown0⟩ := atoms_of _ (rest_1_c_eq ▸ (show rest_1_c.before _ s = true from hrest))
  have hr0 := Cond.before_iff.mp hown0
  obtain ⟨i0, ei0⟩ := is_v g3
  obtain rfl : w0 = (.int i0) := Option.some.inj ei0
  obtain ⟨i1, ei1⟩ := is_v g5
  obtain rfl : w1 = (.int i1) := Option.some.inj ei1
  obtain ⟨i2, ei2⟩ := is_v g6
  obtain rfl : w2 = (.int i2) := Option.some.inj ei2
  obtain ⟨cs, ecs⟩ := is_v (Cond.before_iff.mp (hsets _ (List.mem_of_getElem? (i := 1) rfl)))
  have Scs : Sta s s.heap "java/lang/String" "COMPACT_STRINGS" "Z" (.int cs) := Sta.start ecs (Or.inl (hsets _ (List.mem_of_getElem? (i := 0) rfl)))
  have hcs : ¬ (cs = (0 : Int32)) := gotF (Cond.eq_ints ecs (Term.int_eval (0))) (not_v (Cond.before_iff.mp (hsets _ (List.mem_of_getElem? (i := 2) rfl))))
  have Shi : Sta s s.heap "java/lang/Integer$IntegerCache" "high" "I" (.int (127 : Int32)) := Sta.start (own_eqi (Cond.before_iff.mp (hsets _ (List.mem_of_getElem? (i := 12) rfl)))) (Or.inl (hsets _ (List.mem_of_getElem? (i := 10) rfl)))
  obtain ⟨ca, eca⟩ := arr_v (Cond.before_iff.mp (hsets _ (List.mem_of_getElem? (i := 13) rfl)))
  have Sca : Sta s s.heap "java/lang/Integer$IntegerCache" "cache" "[Ljava/lang/Integer;" (.ref ca) := Sta.start eca (Or.inr ⟨(hw _ (List.mem_of_getElem? (i := 64) rfl)), (hsets _ (List.mem_of_getElem? (i := 11) rfl))⟩)
  obtain ⟨cl, Acl⟩ := Arr.start eca (Cond.before_iff.mp (hsets _ (List.mem_of_getElem? (i := 13) rfl)))
  have elen := own_eqi (Cond.before_iff.mp (hsets _ (List.mem_of_getElem? (i := 15) rfl)))
  obtain ⟨hsm, hln⟩ := own_len eca (Acl.fin (Vm.Alike.refl _)) elen
  have hbx : Bxs s ca cl "java/lang/Integer" "I" (256 : Int32) (fun j => Value.int (j - (128 : Int32))) := Bxs.start (fun _ => eca) Acl hsm hln (by decide) (Cond.before_iff.mp (hsets _ (List.mem_of_getElem? (i := 16) rfl))) (fun X j nn hX => eqv_i (own_sub nn) hX)
  obtain ⟨n, o, h1, h2, h3, _, L, rfl, ⟨rfl, N, -⟩, hq⟩ := rm0 l s _ hw tables_1 i0 i1 i2 cs ca cl s.heap s.heap.size (Nat.le_refl _) (Old.start s) Scs hcs Shi Sca hbx p e ha hc hk s m _ below hf ((Spec.applies_iff_loose hf).mp happ).1 ⟨rfl, State.Warmed39.refl s, rfl⟩ trivial
  refine ⟨n, _, h1, h2, h3, hpost _ _ _ _ _ _ ⟨Cond.after_iff.mpr rfl, Cond.after_iff.mpr (eq_i res_at (Term.int_eval (1)) rfl), trivial⟩ ⟨hq.1, hq.2.1, (hq.2.2.sift fun y hy => Or.inr (N y hy)).mono (by decide) (by decide)⟩⟩
theorem main_1_1 : Claimed_1_1 := comes_1 fun _ _ _ _ _ _ h hF => ⟨h.1, hF⟩
theorem main_1_2 : Claimed_1_2 := comes_1 fun _ _ _ _ _ _ h hF => ⟨h.2.1, hF⟩
end Jvm.Pilot.@@N@@
namespace Jvm.Pilot.@@N@@
open Jvm Jvm.ClassFile Sem Op Lib Jvm.Free Jvm.Stand Jvm.Pilot.@@N@@.Jvm.D
/-! MADE BY PROGRAM (witnessworld.py) out of the Statement's table words and the real class files: 24 classes; the members and pool entries that the words name. The judged class is class 1, her method 1. -/
namespace start1
open Jvm.ClassFile
def u (s : String) : CpInfo := .utf8 (stringToUtf16 s)
/-- a pool by its gaps: so many unusable entries, then the entry; so many at the end -/
def gap : Nat → List CpInfo → List CpInfo
  | 0, r => r
  | n + 1, r => .unusable :: gap n r
def poolList (es : List (Nat × CpInfo)) (last : Nat) : List CpInfo := es.foldr (fun e r => gap e.1 (e.2 :: r)) (gap last [])
def pool (es : List (Nat × CpInfo)) (last : Nat) : Array CpInfo := ⟨poolList es last⟩
def fileOf (pool : Array CpInfo) (this : Nat) (attrs : Array Attribute := #[]) (ms : Array MethodInfo := #[]) (fl : Nat := 33) (sup : Nat := 0) (ifs : Array Nat := #[]) (fds : Array FieldInfo := #[]) : ClassFile where
  minorVersion := 0
  majorVersion := 65
  constantPool := pool
  accessFlags := fl
  thisClass := this
  superClass := sup
  interfaces := ifs
  fields := fds
  methods := ms
  attributes := attrs
def plain (name : String) (sup : Option ClassId) : Class where
  name := name
  kind := .ordinary
  loader := none
  accessFlags := 33
  super := sup
  interfaces := #[]
  cf := none
  fields := #[]
  methods := #[]
  instanceTypes := #[]
  staticTypes := #[]
  resolved := #[]
  callSites := []
  init := .initialized
  statics := none
  mirror := none

def pool0 : Array CpInfo := pool [(5, u "<init>"), (0, u "()V"), (1, .class_ 10), (1, u "java/lang/Object")] 113

def k0c0 : Code := { maxStack := 0, maxLocals := 1, code := object_method_1_code, exceptionTable := #[], attributes := #[] }
def k0m0 : Method := { name := "<init>", desc := "()V", sig := { parameters := [], returnType := none }, accessFlags := 1, code := some k0c0 }
/-- java/lang/Object -/
def k0 : Class := { plain "java/lang/Object" none with
  accessFlags := 33
  interfaces := #[]
  cf := some (fileOf pool0 8 #[] #[{ accessFlags := 1, nameIndex := 5, descriptorIndex := 6, attributes := #[] }] 33 0 #[] #[])
  fields := #[]
  methods := #[k0m0]
  instanceTypes := #[]
  staticTypes := #[]
  resolved := Array.replicate 124 none
  statics := none }

def pool1 : Array CpInfo := pool [(2, .class_ 4), (1, u "java/lang/Object"), (0, u "<init>"), (0, u "()V"), (0, .class_ 8), (0, u "com/example/locktop/locktop/snapshot/Blocker$Backend"), (0, .methodref 7 10), (0, .nameAndType 5 11), (0, u "(I)V"), (0, .integer 2147483647), (0, .class_ 14), (0, u "com/example/locktop/locktop/snapshot/Blocker$Prepared"), (0, .methodref 16 17), (0, .class_ 18), (0, .nameAndType 19 20), (0, u "java/lang/String"), (0, u "valueOf"), (0, u "(C)Ljava/lang/String;"), (0, .methodref 13 22), (0, .nameAndType 5 23), (0, u "(Ljava/lang/String;)V"), (0, .methodref 25 26), (0, .class_ 27), (0, .nameAndType 19 28), (0, u "java/lang/Integer"), (0, u "(I)Ljava/lang/Integer;"), (0, .methodref 7 30), (0, .nameAndType 31 32), (0, u "equals"), (0, u "(Ljava/lang/Object;)Z"), (0, .class_ 34), (0, u "com/example/locktop/locktop/snapshot/BackendEqualsPinLaw"), (2, u "law"), (0, u "(III)Z")] 8

def k1m0 : Method := { name := "<init>", desc := "()V", sig := { parameters := [], returnType := none }, accessFlags := 1, code := none }
def k1c1 : Code := { maxStack := 4, maxLocals := 7, code := code, exceptionTable := #[], attributes := #[] }
def k1m1 : Method := { name := "law", desc := "(III)Z", sig := { parameters := [.int, .int, .int], returnType := some .boolean }, accessFlags := 9, code := some k1c1 }
/-- com/example/locktop/locktop/snapshot/BackendEqualsPinLaw -/
def k1 : Class := { plain "com/example/locktop/locktop/snapshot/BackendEqualsPinLaw" (some 0) with
  accessFlags := 49
  interfaces := #[]
  cf := some (fileOf pool1 33 #[] #[{ accessFlags := 1, nameIndex := 5, descriptorIndex := 6, attributes := #[] }, { accessFlags := 9, nameIndex := 37, descriptorIndex := 38, attributes := #[] }] 49 2 #[] #[])
  fields := #[]
  methods := #[k1m0, k1m1]
  instanceTypes := #[]
  staticTypes := #[]
  resolved := Array.replicate 47 none
  statics := none }

def pool2 : Array CpInfo := pool [(1, .methodref 2 3), (0, .class_ 4), (0, .nameAndType 5 6), (0, u "java/lang/Object"), (0, u "<init>"), (0, u "()V"), (0, .class_ 8), (0, u "java/lang/Record")] 13

def k2c0 : Code := { maxStack := 1, maxLocals := 1, code := jdk_30_method_1_code, exceptionTable := #[], attributes := #[] }
def k2m0 : Method := { name := "<init>", desc := "()V", sig := { parameters := [], returnType := none }, accessFlags := 4, code := some k2c0 }
/-- java/lang/Record -/
def k2 : Class := { plain "java/lang/Record" (some 0) with
  accessFlags := 1057
  interfaces := #[]
  cf := some (fileOf pool2 7 #[] #[{ accessFlags := 4, nameIndex := 5, descriptorIndex := 6, attributes := #[] }] 1057 2 #[] #[])
  fields := #[]
  methods := #[k2m0]
  instanceTypes := #[]
  staticTypes := #[]
  resolved := Array.replicate 22 none
  statics := none }

def pool3 : Array CpInfo := pool [(1, .class_ 2), (0, u "java/lang/Comparable"), (0, .class_ 4), (0, u "java/lang/Object")] 7

/-- java/lang/Comparable -/
def k3 : Class := { plain "java/lang/Comparable" (some 0) with
  accessFlags := 1537
  interfaces := #[]
  cf := some (fileOf pool3 1 #[] #[] 1537 3 #[] #[])
  fields := #[]
  methods := #[]
  instanceTypes := #[]
  staticTypes := #[]
  resolved := Array.replicate 12 none
  statics := none }

def pool4 : Array CpInfo := pool [(1, .class_ 2), (0, u "com/example/locktop/locktop/snapshot/Blocker$Backend"), (10, .class_ 14), (0, u "com/example/locktop/locktop/snapshot/Blocker$Prepared"), (10, .class_ 26), (0, u "com/example/locktop/locktop/snapshot/Blocker"), (3, .class_ 31), (0, u "java/lang/Object"), (0, .class_ 33), (0, u "java/lang/Comparable")] 14

/-- com/example/locktop/locktop/snapshot/Blocker -/
def k4 : Class := { plain "com/example/locktop/locktop/snapshot/Blocker" (some 0) with
  accessFlags := 1537
  interfaces := #[3]
  cf := some (fileOf pool4 25 #[.nestMembers #[13, 1]] #[] 1537 30 #[32] #[])
  fields := #[]
  methods := #[]
  instanceTypes := #[]
  staticTypes := #[]
  resolved := Array.replicate 48 none
  statics := none }

def pool5 : Array CpInfo := pool [(1, .methodref 2 3), (0, .class_ 4), (0, .nameAndType 5 6), (0, u "java/lang/Record"), (0, u "<init>"), (0, u "()V"), (0, .fieldref 8 9), (0, .class_ 10), (0, .nameAndType 11 12), (0, u "com/example/locktop/locktop/snapshot/Blocker$Backend"), (0, u "pid"), (0, u "I"), (10, .class_ 24), (0, u "com/example/locktop/locktop/snapshot/Blocker"), (0, u "(I)V"), (3, u "equals"), (0, u "(Ljava/lang/Object;)Z")] 24

def k5c0 : Code := { maxStack := 2, maxLocals := 2, code := prog_28_method_1_code, exceptionTable := #[], attributes := #[] }
def k5m0 : Method := { name := "<init>", desc := "(I)V", sig := { parameters := [.int], returnType := none }, accessFlags := 1, code := some k5c0 }
def k5c1 : Code := { maxStack := 2, maxLocals := 3, code := prog_28_method_2_code, exceptionTable := #[], attributes := #[] }
def k5m1 : Method := { name := "equals", desc := "(Ljava/lang/Object;)Z", sig := { parameters := [(.object "java/lang/Object")], returnType := some .boolean }, accessFlags := 1, code := some k5c1 }
/-- com/example/locktop/locktop/snapshot/Blocker$Backend -/
def k5 : Class := { plain "com/example/locktop/locktop/snapshot/Blocker$Backend" (some 2) with
  accessFlags := 49
  interfaces := #[4]
  cf := some (fileOf pool5 8 #[.nestHost 23] #[{ accessFlags := 1, nameIndex := 5, descriptorIndex := 25, attributes := #[] }, { accessFlags := 1, nameIndex := 29, descriptorIndex := 30, attributes := #[] }] 49 2 #[23] #[{ accessFlags := 18, nameIndex := 11, descriptorIndex := 12, attributes := #[] }])
  fields := #[{ name := "pid", type := .int, accessFlags := 18, slot := 0, constantValue := 0 }]
  methods := #[k5m0, k5m1]
  instanceTypes := #[.int]
  staticTypes := #[]
  resolved := Array.replicate 55 none
  statics := none }

def pool6 : Array CpInfo := pool [(1, .methodref 2 3), (0, .class_ 4), (0, .nameAndType 5 6), (0, u "java/lang/Record"), (0, u "<init>"), (0, u "()V"), (0, .fieldref 8 9), (0, .class_ 10), (0, .nameAndType 11 12), (0, u "com/example/locktop/locktop/snapshot/Blocker$Prepared"), (0, u "gid"), (0, u "Ljava/lang/String;"), (14, .class_ 28), (0, u "com/example/locktop/locktop/snapshot/Blocker"), (0, u "(Ljava/lang/String;)V")] 26

def k6c0 : Code := { maxStack := 2, maxLocals := 2, code := prog_29_method_1_code, exceptionTable := #[], attributes := #[] }
def k6m0 : Method := { name := "<init>", desc := "(Ljava/lang/String;)V", sig := { parameters := [(.object "java/lang/String")], returnType := none }, accessFlags := 1, code := some k6c0 }
/-- com/example/locktop/locktop/snapshot/Blocker$Prepared -/
def k6 : Class := { plain "com/example/locktop/locktop/snapshot/Blocker$Prepared" (some 2) with
  accessFlags := 49
  interfaces := #[4]
  cf := some (fileOf pool6 8 #[.nestHost 27] #[{ accessFlags := 1, nameIndex := 5, descriptorIndex := 29, attributes := #[] }] 49 2 #[27] #[{ accessFlags := 18, nameIndex := 11, descriptorIndex := 12, attributes := #[] }])
  fields := #[{ name := "gid", type := (.object "java/lang/String"), accessFlags := 18, slot := 0, constantValue := 0 }]
  methods := #[k6m0]
  instanceTypes := #[(.object "java/lang/String")]
  staticTypes := #[]
  resolved := Array.replicate 56 none
  statics := none }

def pool7 : Array CpInfo := pool [(1, .class_ 2), (0, u "java/io/Serializable"), (0, .class_ 4), (0, u "java/lang/Object")] 2

/-- java/io/Serializable -/
def k7 : Class := { plain "java/io/Serializable" (some 0) with
  accessFlags := 1537
  interfaces := #[]
  cf := some (fileOf pool7 1 #[] #[] 1537 3 #[] #[])
  fields := #[]
  methods := #[]
  instanceTypes := #[]
  staticTypes := #[]
  resolved := Array.replicate 7 none
  statics := none }

def pool8 : Array CpInfo := pool [(2, .class_ 4), (1, u "java/lang/CharSequence"), (42, .class_ 48), (0, u "java/lang/CharSequence$1CodePointIterator"), (10, .class_ 60), (0, u "java/lang/CharSequence$1CharIterator"), (5, .class_ 67), (0, u "java/lang/Object")] 63

/-- java/lang/CharSequence -/
def k8 : Class := { plain "java/lang/CharSequence" (some 0) with
  accessFlags := 1537
  interfaces := #[]
  cf := some (fileOf pool8 2 #[.nestMembers #[47, 59]] #[] 1537 66 #[] #[])
  fields := #[]
  methods := #[]
  instanceTypes := #[]
  staticTypes := #[]
  resolved := Array.replicate 131 none
  statics := none }

def pool9 : Array CpInfo := pool [(1, .class_ 2), (0, u "java/lang/constant/Constable"), (0, .class_ 4), (0, u "java/lang/Object")] 6

/-- java/lang/constant/Constable -/
def k9 : Class := { plain "java/lang/constant/Constable" (some 0) with
  accessFlags := 1537
  interfaces := #[]
  cf := some (fileOf pool9 1 #[] #[] 1537 3 #[] #[])
  fields := #[]
  methods := #[]
  instanceTypes := #[]
  staticTypes := #[]
  resolved := Array.replicate 11 none
  statics := none }

def pool10 : Array CpInfo := pool [(1, .class_ 2), (0, u "java/lang/constant/ConstantDesc"), (0, .class_ 4), (0, u "java/lang/Object")] 32

/-- java/lang/constant/ConstantDesc -/
def k10 : Class := { plain "java/lang/constant/ConstantDesc" (some 0) with
  accessFlags := 1537
  interfaces := #[]
  cf := some (fileOf pool10 1 #[] #[] 1537 3 #[] #[])
  fields := #[]
  methods := #[]
  instanceTypes := #[]
  staticTypes := #[]
  resolved := Array.replicate 37 none
  statics := none }

def pool11 : Array CpInfo := pool [(1, .methodref 2 3), (0, .class_ 4), (0, .nameAndType 5 6), (0, u "java/lang/Object"), (0, u "<init>"), (0, u "()V"), (2, .fieldref 10 11), (0, .class_ 12), (0, .nameAndType 13 14), (0, u "java/lang/String"), (0, u "value"), (0, u "[B"), (0, .fieldref 10 16), (0, .nameAndType 17 18), (0, u "coder"), (0, u "B"), (2, u "hash"), (0, u "I"), (2, u "hashIsZero"), (0, u "Z"), (11, .fieldref 10 39), (0, .nameAndType 40 26), (0, u "COMPACT_STRINGS"), (12, u "toBytes"), (53, .class_ 109), (1, u "java/lang/StringLatin1"), (99, .methodref 10 210), (0, .nameAndType 5 211), (0, u "([BB)V"), (157, u "(C)Z"), (205, .class_ 576), (0, u "java/lang/CharSequence"), (22, u "CASE_INSENSITIVE_ORDER"), (0, u "Ljava/util/Comparator;"), (181, u "valueOf"), (0, u "(C)Ljava/lang/String;"), (231, .methodref 107 1016), (0, .nameAndType 1017 369), (0, u "canEncode"), (0, .methodref 107 1019), (0, .nameAndType 53 1020), (0, u "(C)[B"), (80, u "serialPersistentFields"), (0, u "[Ljava/io/ObjectStreamField;"), (0, .class_ 1104), (0, u "java/lang/String$CaseInsensitiveComparator"), (1, .class_ 1107), (0, u "java/io/Serializable"), (0, .class_ 1109), (0, u "java/lang/Comparable"), (0, .class_ 1111), (0, u "java/lang/constant/Constable"), (0, .class_ 1113), (0, u "java/lang/constant/ConstantDesc"), (2, u "serialVersionUID"), (0, u "J"), (3, u "REPL"), (0, u "C"), (2, u "LATIN1"), (1, u "UTF16")] 323

def k11m0 : Method := { name := "<init>", desc := "()V", sig := { parameters := [], returnType := none }, accessFlags := 1, code := none }
def k11c1 : Code := { maxStack := 4, maxLocals := 1, code := jdk_42_method_139_code, exceptionTable := #[], attributes := #[] }
def k11m1 : Method := { name := "valueOf", desc := "(C)Ljava/lang/String;", sig := { parameters := [.char], returnType := some (.object "java/lang/String") }, accessFlags := 9, code := some k11c1 }
def k11c2 : Code := { maxStack := 2, maxLocals := 3, code := jdk_42_method_151_code, exceptionTable := #[], attributes := #[] }
def k11m2 : Method := { name := "<init>", desc := "([BB)V", sig := { parameters := [(.array .byte), .byte], returnType := none }, accessFlags := 0, code := some k11c2 }
/-- java/lang/String -/
def k11 : Class := { plain "java/lang/String" (some 0) with
  accessFlags := 49
  interfaces := #[7, 3, 8, 9, 10]
  cf := some (fileOf pool11 10 #[.nestMembers #[1103]] #[{ accessFlags := 1, nameIndex := 5, descriptorIndex := 6, attributes := #[] }, { accessFlags := 9, nameIndex := 782, descriptorIndex := 783, attributes := #[] }, { accessFlags := 0, nameIndex := 5, descriptorIndex := 211, attributes := #[] }] 49 2 #[1106, 1108, 575, 1110, 1112] #[{ accessFlags := 18, nameIndex := 13, descriptorIndex := 14, attributes := #[] }, { accessFlags := 18, nameIndex := 17, descriptorIndex := 18, attributes := #[] }, { accessFlags := 2, nameIndex := 21, descriptorIndex := 22, attributes := #[] }, { accessFlags := 2, nameIndex := 25, descriptorIndex := 26, attributes := #[] }, { accessFlags := 26, nameIndex := 1116, descriptorIndex := 1117, attributes := #[] }, { accessFlags := 24, nameIndex := 40, descriptorIndex := 26, attributes := #[] }, { accessFlags := 26, nameIndex := 1101, descriptorIndex := 1102, attributes := #[] }, { accessFlags := 26, nameIndex := 1121, descriptorIndex := 1122, attributes := #[] }, { accessFlags := 25, nameIndex := 599, descriptorIndex := 600, attributes := #[] }, { accessFlags := 24, nameIndex := 1125, descriptorIndex := 18, attributes := #[] }, { accessFlags := 24, nameIndex := 1127, descriptorIndex := 18, attributes := #[] }])
  fields := #[{ name := "value", type := (.array .byte), accessFlags := 18, slot := 0, constantValue := 0 }, { name := "coder", type := .byte, accessFlags := 18, slot := 1, constantValue := 0 }, { name := "hash", type := .int, accessFlags := 2, slot := 2, constantValue := 0 }, { name := "hashIsZero", type := .boolean, accessFlags := 2, slot := 3, constantValue := 0 }, { name := "serialVersionUID", type := .long, accessFlags := 26, slot := 0, constantValue := 0 }, { name := "COMPACT_STRINGS", type := .boolean, accessFlags := 24, slot := 1, constantValue := 0 }, { name := "serialPersistentFields", type := (.array (.object "java/io/ObjectStreamField")), accessFlags := 26, slot := 2, constantValue := 0 }, { name := "REPL", type := .char, accessFlags := 26, slot := 3, constantValue := 0 }, { name := "CASE_INSENSITIVE_ORDER", type := (.object "java/util/Comparator"), accessFlags := 25, slot := 4, constantValue := 0 }, { name := "LATIN1", type := .byte, accessFlags := 24, slot := 5, constantValue := 0 }, { name := "UTF16", type := .byte, accessFlags := 24, slot := 6, constantValue := 0 }]
  methods := #[k11m0, k11m1, k11m2]
  instanceTypes := #[(.array .byte), .byte, .int, .boolean]
  staticTypes := #[.long, .boolean, (.array (.object "java/io/ObjectStreamField")), .char, (.object "java/util/Comparator"), .byte, .byte]
  resolved := Array.replicate 1451 none
  statics := some 0 }

def pool12 : Array CpInfo := pool [(4, .class_ 6), (1, u "java/lang/Object"), (0, u "<init>"), (0, u "()V"), (5, .class_ 16), (1, u "java/lang/StringLatin1"), (73, u "canEncode"), (14, u "(C)Z"), (15, u "$assertionsDisabled"), (0, u "Z"), (98, .class_ 223), (1, u "java/lang/StringLatin1$LinesSpliterator"), (156, u "toBytes"), (1, u "(C)[B"), (7, .class_ 391), (0, u "java/lang/StringLatin1$CharsSpliterator")] 3

def k12m0 : Method := { name := "<init>", desc := "()V", sig := { parameters := [], returnType := none }, accessFlags := 0, code := none }
def k12c1 : Code := { maxStack := 2, maxLocals := 1, code := jdk_43_method_3_code, exceptionTable := #[], attributes := #[] }
def k12m1 : Method := { name := "canEncode", desc := "(C)Z", sig := { parameters := [.char], returnType := some .boolean }, accessFlags := 9, code := some k12c1 }
def k12c2 : Code := { maxStack := 4, maxLocals := 1, code := jdk_43_method_46_code, exceptionTable := #[], attributes := #[] }
def k12m2 : Method := { name := "toBytes", desc := "(C)[B", sig := { parameters := [.char], returnType := some (.array .byte) }, accessFlags := 9, code := some k12c2 }
/-- java/lang/StringLatin1 -/
def k12 : Class := { plain "java/lang/StringLatin1" (some 0) with
  accessFlags := 48
  interfaces := #[]
  cf := some (fileOf pool12 14 #[.nestMembers #[390, 221]] #[{ accessFlags := 0, nameIndex := 7, descriptorIndex := 8, attributes := #[] }, { accessFlags := 9, nameIndex := 90, descriptorIndex := 105, attributes := #[] }, { accessFlags := 9, nameIndex := 380, descriptorIndex := 382, attributes := #[] }] 48 4 #[] #[{ accessFlags := 4120, nameIndex := 121, descriptorIndex := 122, attributes := #[] }])
  fields := #[{ name := "$assertionsDisabled", type := .boolean, accessFlags := 4120, slot := 0, constantValue := 0 }]
  methods := #[k12m0, k12m1, k12m2]
  instanceTypes := #[]
  staticTypes := #[.boolean]
  resolved := Array.replicate 395 none
  statics := none }

def pool13 : Array CpInfo := pool [(1, .methodref 2 3), (0, .class_ 4), (0, .nameAndType 5 6), (0, u "java/lang/Object"), (0, u "<init>"), (0, u "()V"), (1, .class_ 10), (1, u "java/lang/Number"), (2, .class_ 14), (0, u "java/io/Serializable"), (0, u "serialVersionUID"), (0, u "J")] 20

def k13c0 : Code := { maxStack := 1, maxLocals := 1, code := jdk_18_method_1_code, exceptionTable := #[], attributes := #[] }
def k13m0 : Method := { name := "<init>", desc := "()V", sig := { parameters := [], returnType := none }, accessFlags := 1, code := some k13c0 }
/-- java/lang/Number -/
def k13 : Class := { plain "java/lang/Number" (some 0) with
  accessFlags := 1057
  interfaces := #[7]
  cf := some (fileOf pool13 8 #[] #[{ accessFlags := 1, nameIndex := 5, descriptorIndex := 6, attributes := #[] }] 1057 2 #[13] #[{ accessFlags := 26, nameIndex := 15, descriptorIndex := 16, attributes := #[] }])
  fields := #[{ name := "serialVersionUID", type := .long, accessFlags := 26, slot := 0, constantValue := 0 }]
  methods := #[k13m0]
  instanceTypes := #[]
  staticTypes := #[.long]
  resolved := Array.replicate 37 none
  statics := none }

def pool14 : Array CpInfo := pool [(1, .class_ 2), (0, u "java/lang/Integer"), (16, u "digits"), (0, u "[C"), (46, u "<init>"), (17, u "DigitOnes"), (0, u "[B"), (2, u "DigitTens"), (10, .nameAndType 67 101), (0, u "()V"), (85, u "valueOf"), (0, u "(I)Ljava/lang/Integer;"), (0, .class_ 190), (0, u "java/lang/Integer$IntegerCache"), (0, .fieldref 189 192), (0, .nameAndType 193 194), (0, u "high"), (0, u "I"), (0, .fieldref 189 196), (0, .nameAndType 197 198), (0, u "cache"), (0, u "[Ljava/lang/Integer;"), (0, .methodref 1 200), (0, .nameAndType 67 201), (0, u "(I)V"), (0, .methodref 203 100), (0, .class_ 204), (0, u "java/lang/Number"), (0, .fieldref 1 206), (0, .nameAndType 207 194), (0, u "value"), (94, u "TYPE"), (0, u "Ljava/lang/Class;"), (0, .class_ 305), (0, u "java/lang/Comparable"), (0, .class_ 307), (0, u "java/lang/constant/Constable"), (0, .class_ 309), (0, u "java/lang/constant/ConstantDesc"), (0, u "MIN_VALUE"), (1, u "MAX_VALUE"), (3, u "SIZE"), (1, u "BYTES"), (1, u "serialVersionUID"), (0, u "J")] 131

def k14c0 : Code := { maxStack := 3, maxLocals := 1, code := jdk_33_method_22_code, exceptionTable := #[], attributes := #[] }
def k14m0 : Method := { name := "valueOf", desc := "(I)Ljava/lang/Integer;", sig := { parameters := [.int], returnType := some (.object "java/lang/Integer") }, accessFlags := 9, code := some k14c0 }
def k14c1 : Code := { maxStack := 2, maxLocals := 2, code := jdk_33_method_23_code, exceptionTable := #[], attributes := #[] }
def k14m1 : Method := { name := "<init>", desc := "(I)V", sig := { parameters := [.int], returnType := none }, accessFlags := 1, code := some k14c1 }
/-- java/lang/Integer -/
def k14 : Class := { plain "java/lang/Integer" (some 13) with
  accessFlags := 49
  interfaces := #[3, 9, 10]
  cf := some (fileOf pool14 1 #[.nestMembers #[189]] #[{ accessFlags := 9, nameIndex := 187, descriptorIndex := 188, attributes := #[] }, { accessFlags := 1, nameIndex := 67, descriptorIndex := 201, attributes := #[] }] 49 203 #[304, 306, 308] #[{ accessFlags := 25, nameIndex := 310, descriptorIndex := 194, attributes := #[] }, { accessFlags := 25, nameIndex := 312, descriptorIndex := 194, attributes := #[] }, { accessFlags := 25, nameIndex := 302, descriptorIndex := 303, attributes := #[] }, { accessFlags := 24, nameIndex := 19, descriptorIndex := 20, attributes := #[] }, { accessFlags := 24, nameIndex := 89, descriptorIndex := 86, attributes := #[] }, { accessFlags := 24, nameIndex := 85, descriptorIndex := 86, attributes := #[] }, { accessFlags := 18, nameIndex := 207, descriptorIndex := 194, attributes := #[] }, { accessFlags := 25, nameIndex := 316, descriptorIndex := 194, attributes := #[] }, { accessFlags := 25, nameIndex := 318, descriptorIndex := 194, attributes := #[] }, { accessFlags := 26, nameIndex := 320, descriptorIndex := 321, attributes := #[] }])
  fields := #[{ name := "MIN_VALUE", type := .int, accessFlags := 25, slot := 0, constantValue := 0 }, { name := "MAX_VALUE", type := .int, accessFlags := 25, slot := 1, constantValue := 0 }, { name := "TYPE", type := (.object "java/lang/Class"), accessFlags := 25, slot := 2, constantValue := 0 }, { name := "digits", type := (.array .char), accessFlags := 24, slot := 3, constantValue := 0 }, { name := "DigitTens", type := (.array .byte), accessFlags := 24, slot := 4, constantValue := 0 }, { name := "DigitOnes", type := (.array .byte), accessFlags := 24, slot := 5, constantValue := 0 }, { name := "value", type := .int, accessFlags := 18, slot := 0, constantValue := 0 }, { name := "SIZE", type := .int, accessFlags := 25, slot := 6, constantValue := 0 }, { name := "BYTES", type := .int, accessFlags := 25, slot := 7, constantValue := 0 }, { name := "serialVersionUID", type := .long, accessFlags := 26, slot := 8, constantValue := 0 }]
  methods := #[k14m0, k14m1]
  instanceTypes := #[.int]
  staticTypes := #[.int, .int, (.object "java/lang/Class"), (.array .char), (.array .byte), (.array .byte), .int, .int, .long]
  resolved := Array.replicate 453 none
  statics := none }

def pool15 : Array CpInfo := pool [(2, .class_ 4), (1, u "java/lang/Object"), (0, u "<init>"), (0, u "()V"), (0, .class_ 8), (0, u "java/lang/Integer"), (7, .class_ 18), (1, u "java/lang/Integer$IntegerCache"), (0, u "$assertionsDisabled"), (0, u "Z"), (26, u "high"), (0, u "I"), (8, u "archivedCache"), (0, u "[Ljava/lang/Integer;"), (12, u "cache"), (0, u "low")] 27

def k15m0 : Method := { name := "<init>", desc := "()V", sig := { parameters := [], returnType := none }, accessFlags := 2, code := none }
/-- java/lang/Integer$IntegerCache -/
def k15 : Class := { plain "java/lang/Integer$IntegerCache" (some 0) with
  accessFlags := 48
  interfaces := #[]
  cf := some (fileOf pool15 16 #[.nestHost 7] #[{ accessFlags := 2, nameIndex := 5, descriptorIndex := 6, attributes := #[] }] 48 2 #[] #[{ accessFlags := 24, nameIndex := 72, descriptorIndex := 48, attributes := #[] }, { accessFlags := 24, nameIndex := 47, descriptorIndex := 48, attributes := #[] }, { accessFlags := 24, nameIndex := 71, descriptorIndex := 58, attributes := #[] }, { accessFlags := 8, nameIndex := 57, descriptorIndex := 58, attributes := #[] }, { accessFlags := 4120, nameIndex := 19, descriptorIndex := 20, attributes := #[] }])
  fields := #[{ name := "low", type := .int, accessFlags := 24, slot := 0, constantValue := 0 }, { name := "high", type := .int, accessFlags := 24, slot := 1, constantValue := 0 }, { name := "cache", type := (.array (.object "java/lang/Integer")), accessFlags := 24, slot := 2, constantValue := 0 }, { name := "archivedCache", type := (.array (.object "java/lang/Integer")), accessFlags := 8, slot := 3, constantValue := 0 }, { name := "$assertionsDisabled", type := .boolean, accessFlags := 4120, slot := 4, constantValue := 0 }]
  methods := #[k15m0]
  instanceTypes := #[]
  staticTypes := #[.int, .int, (.array (.object "java/lang/Integer")), (.array (.object "java/lang/Integer")), .boolean]
  resolved := Array.replicate 100 none
  statics := some 1 }

def pool16 : Array CpInfo := pool [(2, .class_ 4), (1, u "java/lang/Object"), (0, u "<init>"), (0, u "()V"), (17, .class_ 26), (1, u "jdk/internal/util/Preconditions"), (28, .class_ 56), (0, u "jdk/internal/util/Preconditions$4"), (57, .class_ 115), (0, u "jdk/internal/util/Preconditions$1"), (7, u "SIOOBE_FORMATTER"), (0, u "Ljava/util/function/BiFunction;"), (0, .class_ 126), (0, u "jdk/internal/util/Preconditions$2"), (3, u "AIOOBE_FORMATTER"), (0, .class_ 132), (0, u "jdk/internal/util/Preconditions$3"), (3, u "IOOBE_FORMATTER")] 57

def k16m0 : Method := { name := "<init>", desc := "()V", sig := { parameters := [], returnType := none }, accessFlags := 1, code := none }
/-- jdk/internal/util/Preconditions -/
def k16 : Class := { plain "jdk/internal/util/Preconditions" (some 0) with
  accessFlags := 33
  interfaces := #[]
  cf := some (fileOf pool16 24 #[.nestMembers #[55, 131, 125, 114]] #[{ accessFlags := 1, nameIndex := 5, descriptorIndex := 6, attributes := #[] }] 33 2 #[] #[{ accessFlags := 25, nameIndex := 123, descriptorIndex := 124, attributes := #[] }, { accessFlags := 25, nameIndex := 130, descriptorIndex := 124, attributes := #[] }, { accessFlags := 25, nameIndex := 136, descriptorIndex := 124, attributes := #[] }])
  fields := #[{ name := "SIOOBE_FORMATTER", type := (.object "java/util/function/BiFunction"), accessFlags := 25, slot := 0, constantValue := 0 }, { name := "AIOOBE_FORMATTER", type := (.object "java/util/function/BiFunction"), accessFlags := 25, slot := 1, constantValue := 0 }, { name := "IOOBE_FORMATTER", type := (.object "java/util/function/BiFunction"), accessFlags := 25, slot := 2, constantValue := 0 }]
  methods := #[k16m0]
  instanceTypes := #[]
  staticTypes := #[(.object "java/util/function/BiFunction"), (.object "java/util/function/BiFunction"), (.object "java/util/function/BiFunction")]
  resolved := Array.replicate 194 none
  statics := some 2 }

def pool17 : Array CpInfo := pool [(9, u "<init>"), (6, .class_ 18), (1, u "java/lang/Object"), (0, u "()V"), (1, .class_ 23), (1, u "jdk/internal/util/ArraysSupport"), (0, u "LOG2_ARRAY_LONG_INDEX_SCALE"), (0, u "I"), (2, u "U"), (0, u "Ljdk/internal/misc/Unsafe;"), (8, u "BIG_ENDIAN"), (0, u "Z"), (8, u "LOG2_BYTE_BIT_SIZE"), (4, u "LOG2_ARRAY_INT_INDEX_SCALE"), (54, u "JLA"), (0, u "Ljdk/internal/access/JavaLangAccess;"), (11, u "LOG2_ARRAY_BOOLEAN_INDEX_SCALE"), (9, u "LOG2_ARRAY_BYTE_INDEX_SCALE"), (5, u "LOG2_ARRAY_CHAR_INDEX_SCALE"), (5, u "LOG2_ARRAY_SHORT_INDEX_SCALE"), (18, u "LOG2_ARRAY_FLOAT_INDEX_SCALE"), (24, u "LOG2_ARRAY_DOUBLE_INDEX_SCALE"), (89, u "T_BOOLEAN"), (2, u "T_CHAR"), (1, u "T_FLOAT"), (1, u "T_DOUBLE"), (1, u "T_BYTE"), (1, u "T_SHORT"), (1, u "T_INT"), (1, u "T_LONG"), (1, u "SOFT_MAX_ARRAY_LENGTH")] 83

def k17m0 : Method := { name := "<init>", desc := "()V", sig := { parameters := [], returnType := none }, accessFlags := 2, code := none }
/-- jdk/internal/util/ArraysSupport -/
def k17 : Class := { plain "jdk/internal/util/ArraysSupport" (some 0) with
  accessFlags := 33
  interfaces := #[]
  cf := some (fileOf pool17 21 #[] #[{ accessFlags := 2, nameIndex := 9, descriptorIndex := 19, attributes := #[] }] 33 16 #[] #[{ accessFlags := 24, nameIndex := 28, descriptorIndex := 29, attributes := #[] }, { accessFlags := 26, nameIndex := 38, descriptorIndex := 39, attributes := #[] }, { accessFlags := 25, nameIndex := 121, descriptorIndex := 25, attributes := #[] }, { accessFlags := 25, nameIndex := 131, descriptorIndex := 25, attributes := #[] }, { accessFlags := 25, nameIndex := 137, descriptorIndex := 25, attributes := #[] }, { accessFlags := 25, nameIndex := 143, descriptorIndex := 25, attributes := #[] }, { accessFlags := 25, nameIndex := 53, descriptorIndex := 25, attributes := #[] }, { accessFlags := 25, nameIndex := 24, descriptorIndex := 25, attributes := #[] }, { accessFlags := 25, nameIndex := 162, descriptorIndex := 25, attributes := #[] }, { accessFlags := 25, nameIndex := 187, descriptorIndex := 25, attributes := #[] }, { accessFlags := 26, nameIndex := 48, descriptorIndex := 25, attributes := #[] }, { accessFlags := 25, nameIndex := 277, descriptorIndex := 25, attributes := #[] }, { accessFlags := 25, nameIndex := 280, descriptorIndex := 25, attributes := #[] }, { accessFlags := 25, nameIndex := 282, descriptorIndex := 25, attributes := #[] }, { accessFlags := 25, nameIndex := 284, descriptorIndex := 25, attributes := #[] }, { accessFlags := 25, nameIndex := 286, descriptorIndex := 25, attributes := #[] }, { accessFlags := 25, nameIndex := 288, descriptorIndex := 25, attributes := #[] }, { accessFlags := 25, nameIndex := 290, descriptorIndex := 25, attributes := #[] }, { accessFlags := 25, nameIndex := 292, descriptorIndex := 25, attributes := #[] }, { accessFlags := 26, nameIndex := 108, descriptorIndex := 109, attributes := #[] }, { accessFlags := 25, nameIndex := 294, descriptorIndex := 25, attributes := #[] }])
  fields := #[{ name := "U", type := (.object "jdk/internal/misc/Unsafe"), accessFlags := 24, slot := 0, constantValue := 0 }, { name := "BIG_ENDIAN", type := .boolean, accessFlags := 26, slot := 1, constantValue := 0 }, { name := "LOG2_ARRAY_BOOLEAN_INDEX_SCALE", type := .int, accessFlags := 25, slot := 2, constantValue := 0 }, { name := "LOG2_ARRAY_BYTE_INDEX_SCALE", type := .int, accessFlags := 25, slot := 3, constantValue := 0 }, { name := "LOG2_ARRAY_CHAR_INDEX_SCALE", type := .int, accessFlags := 25, slot := 4, constantValue := 0 }, { name := "LOG2_ARRAY_SHORT_INDEX_SCALE", type := .int, accessFlags := 25, slot := 5, constantValue := 0 }, { name := "LOG2_ARRAY_INT_INDEX_SCALE", type := .int, accessFlags := 25, slot := 6, constantValue := 0 }, { name := "LOG2_ARRAY_LONG_INDEX_SCALE", type := .int, accessFlags := 25, slot := 7, constantValue := 0 }, { name := "LOG2_ARRAY_FLOAT_INDEX_SCALE", type := .int, accessFlags := 25, slot := 8, constantValue := 0 }, { name := "LOG2_ARRAY_DOUBLE_INDEX_SCALE", type := .int, accessFlags := 25, slot := 9, constantValue := 0 }, { name := "LOG2_BYTE_BIT_SIZE", type := .int, accessFlags := 26, slot := 10, constantValue := 0 }, { name := "T_BOOLEAN", type := .int, accessFlags := 25, slot := 11, constantValue := 0 }, { name := "T_CHAR", type := .int, accessFlags := 25, slot := 12, constantValue := 0 }, { name := "T_FLOAT", type := .int, accessFlags := 25, slot := 13, constantValue := 0 }, { name := "T_DOUBLE", type := .int, accessFlags := 25, slot := 14, constantValue := 0 }, { name := "T_BYTE", type := .int, accessFlags := 25, slot := 15, constantValue := 0 }, { name := "T_SHORT", type := .int, accessFlags := 25, slot := 16, constantValue := 0 }, { name := "T_INT", type := .int, accessFlags := 25, slot := 17, constantValue := 0 }, { name := "T_LONG", type := .int, accessFlags := 25, slot := 18, constantValue := 0 }, { name := "JLA", type := (.object "jdk/internal/access/JavaLangAccess"), accessFlags := 26, slot := 19, constantValue := 0 }, { name := "SOFT_MAX_ARRAY_LENGTH", type := .int, accessFlags := 25, slot := 20, constantValue := 0 }]
  methods := #[k17m0]
  instanceTypes := #[]
  staticTypes := #[(.object "jdk/internal/misc/Unsafe"), .boolean, .int, .int, .int, .int, .int, .int, .int, .int, .int, .int, .int, .int, .int, .int, .int, .int, .int, (.object "jdk/internal/access/JavaLangAccess"), .int]
  resolved := Array.replicate 378 none
  statics := none }

def pool18 : Array CpInfo := pool [(1, u "java/lang/Cloneable"), (0, .class_ 1), (0, u "java/lang/Object"), (0, .class_ 3)] 3

/-- java/lang/Cloneable -/
def k18 : Class := { plain "java/lang/Cloneable" (some 0) with
  accessFlags := 1537
  interfaces := #[]
  cf := some (fileOf pool18 2 #[] #[] 1537 4 #[] #[])
  fields := #[]
  methods := #[]
  instanceTypes := #[]
  staticTypes := #[]
  resolved := Array.replicate 8 none
  statics := none }

/-- the primitive byte -/
def k19 : Class := { plain "byte" none with kind := .primitive 'B', accessFlags := 0x411 }
/-- [B -/
def k20 : Class := { plain "[B" (some 0) with kind := .array 19 .byte, interfaces := #[18, 7], accessFlags := 1041 }

/-- the primitive int -/
def k21 : Class := { plain "int" none with kind := .primitive 'I', accessFlags := 0x411 }
/-- [I -/
def k22 : Class := { plain "[I" (some 0) with kind := .array 21 .int, interfaces := #[18, 7], accessFlags := 1041 }

/-- [Ljava/lang/Integer; -/
def k23 : Class := { plain "[Ljava/lang/Integer;" (some 0) with kind := .array 14 (.object "java/lang/Integer"), interfaces := #[18, 7], accessFlags := 1041 }

def heap : Heap := #[{ cls := 11, slots := #[.long 0, .int 1, .null, .int 0, .null, .int 0, .int 0], vm := .statics 11 },
  { cls := 15, slots := #[.int 0, .int 127, .ref 3, .null, .int 0], vm := .statics 15 },
  { cls := 16, slots := #[.null, .null, .null], vm := .statics 16 },
  { cls := 23, slots := #[.ref 4, .ref 5, .ref 6, .ref 7, .ref 8, .ref 9, .ref 10, .ref 11, .ref 12, .ref 13, .ref 14, .ref 15, .ref 16, .ref 17, .ref 18, .ref 19, .ref 20, .ref 21, .ref 22, .ref 23, .ref 24, .ref 25, .ref 26, .ref 27, .ref 28, .ref 29, .ref 30, .ref 31, .ref 32, .ref 33, .ref 34, .ref 35, .ref 36, .ref 37, .ref 38, .ref 39, .ref 40, .ref 41, .ref 42, .ref 43, .ref 44, .ref 45, .ref 46, .ref 47, .ref 48, .ref 49, .ref 50, .ref 51, .ref 52, .ref 53, .ref 54, .ref 55, .ref 56, .ref 57, .ref 58, .ref 59, .ref 60, .ref 61, .ref 62, .ref 63, .ref 64, .ref 65, .ref 66, .ref 67, .ref 68, .ref 69, .ref 70, .ref 71, .ref 72, .ref 73, .ref 74, .ref 75, .ref 76, .ref 77, .ref 78, .ref 79, .ref 80, .ref 81, .ref 82, .ref 83, .ref 84, .ref 85, .ref 86, .ref 87, .ref 88, .ref 89, .ref 90, .ref 91, .ref 92, .ref 93, .ref 94, .ref 95, .ref 96, .ref 97, .ref 98, .ref 99, .ref 100, .ref 101, .ref 102, .ref 103, .ref 104, .ref 105, .ref 106, .ref 107, .ref 108, .ref 109, .ref 110, .ref 111, .ref 112, .ref 113, .ref 114, .ref 115, .ref 116, .ref 117, .ref 118, .ref 119, .ref 120, .ref 121, .ref 122, .ref 123, .ref 124, .ref 125, .ref 126, .ref 127, .ref 128, .ref 129, .ref 130, .ref 131, .ref 132, .ref 133, .ref 134, .ref 135, .ref 136, .ref 137, .ref 138, .ref 139, .ref 140, .ref 141, .ref 142, .ref 143, .ref 144, .ref 145, .ref 146, .ref 147, .ref 148, .ref 149, .ref 150, .ref 151, .ref 152, .ref 153, .ref 154, .ref 155, .ref 156, .ref 157, .ref 158, .ref 159, .ref 160, .ref 161, .ref 162, .ref 163, .ref 164, .ref 165, .ref 166, .ref 167, .ref 168, .ref 169, .ref 170, .ref 171, .ref 172, .ref 173, .ref 174, .ref 175, .ref 176, .ref 177, .ref 178, .ref 179, .ref 180, .ref 181, .ref 182, .ref 183, .ref 184, .ref 185, .ref 186, .ref 187, .ref 188, .ref 189, .ref 190, .ref 191, .ref 192, .ref 193, .ref 194, .ref 195, .ref 196, .ref 197, .ref 198, .ref 199, .ref 200, .ref 201, .ref 202, .ref 203, .ref 204, .ref 205, .ref 206, .ref 207, .ref 208, .ref 209, .ref 210, .ref 211, .ref 212, .ref 213, .ref 214, .ref 215, .ref 216, .ref 217, .ref 218, .ref 219, .ref 220, .ref 221, .ref 222, .ref 223, .ref 224, .ref 225, .ref 226, .ref 227, .ref 228, .ref 229, .ref 230, .ref 231, .ref 232, .ref 233, .ref 234, .ref 235, .ref 236, .ref 237, .ref 238, .ref 239, .ref 240, .ref 241, .ref 242, .ref 243, .ref 244, .ref 245, .ref 246, .ref 247, .ref 248, .ref 249, .ref 250, .ref 251, .ref 252, .ref 253, .ref 254, .ref 255, .ref 256, .ref 257, .ref 258, .ref 259], vm := .none },
  { cls := 14, slots := #[.int (-128)], vm := .none },
  { cls := 14, slots := #[.int (-127)], vm := .none },
  { cls := 14, slots := #[.int (-126)], vm := .none },
  { cls := 14, slots := #[.int (-125)], vm := .none },
  { cls := 14, slots := #[.int (-124)], vm := .none },
  { cls := 14, slots := #[.int (-123)], vm := .none },
  { cls := 14, slots := #[.int (-122)], vm := .none },
  { cls := 14, slots := #[.int (-121)], vm := .none },
  { cls := 14, slots := #[.int (-120)], vm := .none },
  { cls := 14, slots := #[.int (-119)], vm := .none },
  { cls := 14, slots := #[.int (-118)], vm := .none },
  { cls := 14, slots := #[.int (-117)], vm := .none },
  { cls := 14, slots := #[.int (-116)], vm := .none },
  { cls := 14, slots := #[.int (-115)], vm := .none },
  { cls := 14, slots := #[.int (-114)], vm := .none },
  { cls := 14, slots := #[.int (-113)], vm := .none },
  { cls := 14, slots := #[.int (-112)], vm := .none },
  { cls := 14, slots := #[.int (-111)], vm := .none },
  { cls := 14, slots := #[.int (-110)], vm := .none },
  { cls := 14, slots := #[.int (-109)], vm := .none },
  { cls := 14, slots := #[.int (-108)], vm := .none },
  { cls := 14, slots := #[.int (-107)], vm := .none },
  { cls := 14, slots := #[.int (-106)], vm := .none },
  { cls := 14, slots := #[.int (-105)], vm := .none },
  { cls := 14, slots := #[.int (-104)], vm := .none },
  { cls := 14, slots := #[.int (-103)], vm := .none },
  { cls := 14, slots := #[.int (-102)], vm := .none },
  { cls := 14, slots := #[.int (-101)], vm := .none },
  { cls := 14, slots := #[.int (-100)], vm := .none },
  { cls := 14, slots := #[.int (-99)], vm := .none },
  { cls := 14, slots := #[.int (-98)], vm := .none },
  { cls := 14, slots := #[.int (-97)], vm := .none },
  { cls := 14, slots := #[.int (-96)], vm := .none },
  { cls := 14, slots := #[.int (-95)], vm := .none },
  { cls := 14, slots := #[.int (-94)], vm := .none },
  { cls := 14, slots := #[.int (-93)], vm := .none },
  { cls := 14, slots := #[.int (-92)], vm := .none },
  { cls := 14, slots := #[.int (-91)], vm := .none },
  { cls := 14, slots := #[.int (-90)], vm := .none },
  { cls := 14, slots := #[.int (-89)], vm := .none },
  { cls := 14, slots := #[.int (-88)], vm := .none },
  { cls := 14, slots := #[.int (-87)], vm := .none },
  { cls := 14, slots := #[.int (-86)], vm := .none },
  { cls := 14, slots := #[.int (-85)], vm := .none },
  { cls := 14, slots := #[.int (-84)], vm := .none },
  { cls := 14, slots := #[.int (-83)], vm := .none },
  { cls := 14, slots := #[.int (-82)], vm := .none },
  { cls := 14, slots := #[.int (-81)], vm := .none },
  { cls := 14, slots := #[.int (-80)], vm := .none },
  { cls := 14, slots := #[.int (-79)], vm := .none },
  { cls := 14, slots := #[.int (-78)], vm := .none },
  { cls := 14, slots := #[.int (-77)], vm := .none },
  { cls := 14, slots := #[.int (-76)], vm := .none },
  { cls := 14, slots := #[.int (-75)], vm := .none },
  { cls := 14, slots := #[.int (-74)], vm := .none },
  { cls := 14, slots := #[.int (-73)], vm := .none },
  { cls := 14, slots := #[.int (-72)], vm := .none },
  { cls := 14, slots := #[.int (-71)], vm := .none },
  { cls := 14, slots := #[.int (-70)], vm := .none },
  { cls := 14, slots := #[.int (-69)], vm := .none },
  { cls := 14, slots := #[.int (-68)], vm := .none },
  { cls := 14, slots := #[.int (-67)], vm := .none },
  { cls := 14, slots := #[.int (-66)], vm := .none },
  { cls := 14, slots := #[.int (-65)], vm := .none },
  { cls := 14, slots := #[.int (-64)], vm := .none },
  { cls := 14, slots := #[.int (-63)], vm := .none },
  { cls := 14, slots := #[.int (-62)], vm := .none },
  { cls := 14, slots := #[.int (-61)], vm := .none },
  { cls := 14, slots := #[.int (-60)], vm := .none },
  { cls := 14, slots := #[.int (-59)], vm := .none },
  { cls := 14, slots := #[.int (-58)], vm := .none },
  { cls := 14, slots := #[.int (-57)], vm := .none },
  { cls := 14, slots := #[.int (-56)], vm := .none },
  { cls := 14, slots := #[.int (-55)], vm := .none },
  { cls := 14, slots := #[.int (-54)], vm := .none },
  { cls := 14, slots := #[.int (-53)], vm := .none },
  { cls := 14, slots := #[.int (-52)], vm := .none },
  { cls := 14, slots := #[.int (-51)], vm := .none },
  { cls := 14, slots := #[.int (-50)], vm := .none },
  { cls := 14, slots := #[.int (-49)], vm := .none },
  { cls := 14, slots := #[.int (-48)], vm := .none },
  { cls := 14, slots := #[.int (-47)], vm := .none },
  { cls := 14, slots := #[.int (-46)], vm := .none },
  { cls := 14, slots := #[.int (-45)], vm := .none },
  { cls := 14, slots := #[.int (-44)], vm := .none },
  { cls := 14, slots := #[.int (-43)], vm := .none },
  { cls := 14, slots := #[.int (-42)], vm := .none },
  { cls := 14, slots := #[.int (-41)], vm := .none },
  { cls := 14, slots := #[.int (-40)], vm := .none },
  { cls := 14, slots := #[.int (-39)], vm := .none },
  { cls := 14, slots := #[.int (-38)], vm := .none },
  { cls := 14, slots := #[.int (-37)], vm := .none },
  { cls := 14, slots := #[.int (-36)], vm := .none },
  { cls := 14, slots := #[.int (-35)], vm := .none },
  { cls := 14, slots := #[.int (-34)], vm := .none },
  { cls := 14, slots := #[.int (-33)], vm := .none },
  { cls := 14, slots := #[.int (-32)], vm := .none },
  { cls := 14, slots := #[.int (-31)], vm := .none },
  { cls := 14, slots := #[.int (-30)], vm := .none },
  { cls := 14, slots := #[.int (-29)], vm := .none },
  { cls := 14, slots := #[.int (-28)], vm := .none },
  { cls := 14, slots := #[.int (-27)], vm := .none },
  { cls := 14, slots := #[.int (-26)], vm := .none },
  { cls := 14, slots := #[.int (-25)], vm := .none },
  { cls := 14, slots := #[.int (-24)], vm := .none },
  { cls := 14, slots := #[.int (-23)], vm := .none },
  { cls := 14, slots := #[.int (-22)], vm := .none },
  { cls := 14, slots := #[.int (-21)], vm := .none },
  { cls := 14, slots := #[.int (-20)], vm := .none },
  { cls := 14, slots := #[.int (-19)], vm := .none },
  { cls := 14, slots := #[.int (-18)], vm := .none },
  { cls := 14, slots := #[.int (-17)], vm := .none },
  { cls := 14, slots := #[.int (-16)], vm := .none },
  { cls := 14, slots := #[.int (-15)], vm := .none },
  { cls := 14, slots := #[.int (-14)], vm := .none },
  { cls := 14, slots := #[.int (-13)], vm := .none },
  { cls := 14, slots := #[.int (-12)], vm := .none },
  { cls := 14, slots := #[.int (-11)], vm := .none },
  { cls := 14, slots := #[.int (-10)], vm := .none },
  { cls := 14, slots := #[.int (-9)], vm := .none },
  { cls := 14, slots := #[.int (-8)], vm := .none },
  { cls := 14, slots := #[.int (-7)], vm := .none },
  { cls := 14, slots := #[.int (-6)], vm := .none },
  { cls := 14, slots := #[.int (-5)], vm := .none },
  { cls := 14, slots := #[.int (-4)], vm := .none },
  { cls := 14, slots := #[.int (-3)], vm := .none },
  { cls := 14, slots := #[.int (-2)], vm := .none },
  { cls := 14, slots := #[.int (-1)], vm := .none },
  { cls := 14, slots := #[.int 0], vm := .none },
  { cls := 14, slots := #[.int 1], vm := .none },
  { cls := 14, slots := #[.int 2], vm := .none },
  { cls := 14, slots := #[.int 3], vm := .none },
  { cls := 14, slots := #[.int 4], vm := .none },
  { cls := 14, slots := #[.int 5], vm := .none },
  { cls := 14, slots := #[.int 6], vm := .none },
  { cls := 14, slots := #[.int 7], vm := .none },
  { cls := 14, slots := #[.int 8], vm := .none },
  { cls := 14, slots := #[.int 9], vm := .none },
  { cls := 14, slots := #[.int 10], vm := .none },
  { cls := 14, slots := #[.int 11], vm := .none },
  { cls := 14, slots := #[.int 12], vm := .none },
  { cls := 14, slots := #[.int 13], vm := .none },
  { cls := 14, slots := #[.int 14], vm := .none },
  { cls := 14, slots := #[.int 15], vm := .none },
  { cls := 14, slots := #[.int 16], vm := .none },
  { cls := 14, slots := #[.int 17], vm := .none },
  { cls := 14, slots := #[.int 18], vm := .none },
  { cls := 14, slots := #[.int 19], vm := .none },
  { cls := 14, slots := #[.int 20], vm := .none },
  { cls := 14, slots := #[.int 21], vm := .none },
  { cls := 14, slots := #[.int 22], vm := .none },
  { cls := 14, slots := #[.int 23], vm := .none },
  { cls := 14, slots := #[.int 24], vm := .none },
  { cls := 14, slots := #[.int 25], vm := .none },
  { cls := 14, slots := #[.int 26], vm := .none },
  { cls := 14, slots := #[.int 27], vm := .none },
  { cls := 14, slots := #[.int 28], vm := .none },
  { cls := 14, slots := #[.int 29], vm := .none },
  { cls := 14, slots := #[.int 30], vm := .none },
  { cls := 14, slots := #[.int 31], vm := .none },
  { cls := 14, slots := #[.int 32], vm := .none },
  { cls := 14, slots := #[.int 33], vm := .none },
  { cls := 14, slots := #[.int 34], vm := .none },
  { cls := 14, slots := #[.int 35], vm := .none },
  { cls := 14, slots := #[.int 36], vm := .none },
  { cls := 14, slots := #[.int 37], vm := .none },
  { cls := 14, slots := #[.int 38], vm := .none },
  { cls := 14, slots := #[.int 39], vm := .none },
  { cls := 14, slots := #[.int 40], vm := .none },
  { cls := 14, slots := #[.int 41], vm := .none },
  { cls := 14, slots := #[.int 42], vm := .none },
  { cls := 14, slots := #[.int 43], vm := .none },
  { cls := 14, slots := #[.int 44], vm := .none },
  { cls := 14, slots := #[.int 45], vm := .none },
  { cls := 14, slots := #[.int 46], vm := .none },
  { cls := 14, slots := #[.int 47], vm := .none },
  { cls := 14, slots := #[.int 48], vm := .none },
  { cls := 14, slots := #[.int 49], vm := .none },
  { cls := 14, slots := #[.int 50], vm := .none },
  { cls := 14, slots := #[.int 51], vm := .none },
  { cls := 14, slots := #[.int 52], vm := .none },
  { cls := 14, slots := #[.int 53], vm := .none },
  { cls := 14, slots := #[.int 54], vm := .none },
  { cls := 14, slots := #[.int 55], vm := .none },
  { cls := 14, slots := #[.int 56], vm := .none },
  { cls := 14, slots := #[.int 57], vm := .none },
  { cls := 14, slots := #[.int 58], vm := .none },
  { cls := 14, slots := #[.int 59], vm := .none },
  { cls := 14, slots := #[.int 60], vm := .none },
  { cls := 14, slots := #[.int 61], vm := .none },
  { cls := 14, slots := #[.int 62], vm := .none },
  { cls := 14, slots := #[.int 63], vm := .none },
  { cls := 14, slots := #[.int 64], vm := .none },
  { cls := 14, slots := #[.int 65], vm := .none },
  { cls := 14, slots := #[.int 66], vm := .none },
  { cls := 14, slots := #[.int 67], vm := .none },
  { cls := 14, slots := #[.int 68], vm := .none },
  { cls := 14, slots := #[.int 69], vm := .none },
  { cls := 14, slots := #[.int 70], vm := .none },
  { cls := 14, slots := #[.int 71], vm := .none },
  { cls := 14, slots := #[.int 72], vm := .none },
  { cls := 14, slots := #[.int 73], vm := .none },
  { cls := 14, slots := #[.int 74], vm := .none },
  { cls := 14, slots := #[.int 75], vm := .none },
  { cls := 14, slots := #[.int 76], vm := .none },
  { cls := 14, slots := #[.int 77], vm := .none },
  { cls := 14, slots := #[.int 78], vm := .none },
  { cls := 14, slots := #[.int 79], vm := .none },
  { cls := 14, slots := #[.int 80], vm := .none },
  { cls := 14, slots := #[.int 81], vm := .none },
  { cls := 14, slots := #[.int 82], vm := .none },
  { cls := 14, slots := #[.int 83], vm := .none },
  { cls := 14, slots := #[.int 84], vm := .none },
  { cls := 14, slots := #[.int 85], vm := .none },
  { cls := 14, slots := #[.int 86], vm := .none },
  { cls := 14, slots := #[.int 87], vm := .none },
  { cls := 14, slots := #[.int 88], vm := .none },
  { cls := 14, slots := #[.int 89], vm := .none },
  { cls := 14, slots := #[.int 90], vm := .none },
  { cls := 14, slots := #[.int 91], vm := .none },
  { cls := 14, slots := #[.int 92], vm := .none },
  { cls := 14, slots := #[.int 93], vm := .none },
  { cls := 14, slots := #[.int 94], vm := .none },
  { cls := 14, slots := #[.int 95], vm := .none },
  { cls := 14, slots := #[.int 96], vm := .none },
  { cls := 14, slots := #[.int 97], vm := .none },
  { cls := 14, slots := #[.int 98], vm := .none },
  { cls := 14, slots := #[.int 99], vm := .none },
  { cls := 14, slots := #[.int 100], vm := .none },
  { cls := 14, slots := #[.int 101], vm := .none },
  { cls := 14, slots := #[.int 102], vm := .none },
  { cls := 14, slots := #[.int 103], vm := .none },
  { cls := 14, slots := #[.int 104], vm := .none },
  { cls := 14, slots := #[.int 105], vm := .none },
  { cls := 14, slots := #[.int 106], vm := .none },
  { cls := 14, slots := #[.int 107], vm := .none },
  { cls := 14, slots := #[.int 108], vm := .none },
  { cls := 14, slots := #[.int 109], vm := .none },
  { cls := 14, slots := #[.int 110], vm := .none },
  { cls := 14, slots := #[.int 111], vm := .none },
  { cls := 14, slots := #[.int 112], vm := .none },
  { cls := 14, slots := #[.int 113], vm := .none },
  { cls := 14, slots := #[.int 114], vm := .none },
  { cls := 14, slots := #[.int 115], vm := .none },
  { cls := 14, slots := #[.int 116], vm := .none },
  { cls := 14, slots := #[.int 117], vm := .none },
  { cls := 14, slots := #[.int 118], vm := .none },
  { cls := 14, slots := #[.int 119], vm := .none },
  { cls := 14, slots := #[.int 120], vm := .none },
  { cls := 14, slots := #[.int 121], vm := .none },
  { cls := 14, slots := #[.int 122], vm := .none },
  { cls := 14, slots := #[.int 123], vm := .none },
  { cls := 14, slots := #[.int 124], vm := .none },
  { cls := 14, slots := #[.int 125], vm := .none },
  { cls := 14, slots := #[.int 126], vm := .none },
  { cls := 14, slots := #[.int 127], vm := .none }]
def classes : Array Class := #[k0, k1, k2, k3, k4, k5, k6, k7, k8, k9, k10, k11, k12, k13, k14, k15, k16, k17, k18, k19, k20, k21, k22, k23]
def interned : List (Array UInt16 × Addr) := []
def slotsUsed : Nat := 527
def theMethod : MethodId := ⟨1, 1⟩
def args0 : Array Value := #[.int 1, .int 2, .int 3]
def aboutOver (below : List Frame) : State where
  vm := { classes := classes, interned := interned.toArray }
  heap := heap
  slotsUsed := slotsUsed
  threads := #[{ frames := .invoking theMethod args0 :: below }]
def below0 : List Frame := [.native { method := ⟨0, 0⟩, args := #[] }]
def about1 : State := aboutOver below0
def p0 : Program := .bare "" "" ""
def e0 : Env := launch0.env 0 0 0
theorem w_frames : about1.frames = Frame.invoking theMethod args0 :: below0 := rfl
set_option maxRecDepth 65536 in
theorem w_args : argsFit about1.vm theMethod args0 = true := by decide +kernel
set_option maxRecDepth 65536 in
theorem w_heap : heapFits about1 = true := by decide +kernel
set_option maxRecDepth 65536 in
theorem w_runnable : about1.curStatus? = some .runnable := by decide +kernel
set_option maxRecDepth 65536 in
theorem w_alone : about1.alone = true := by decide +kernel
set_option maxRecDepth 65536 in
theorem w_named : about1.methodNamed? x = some theMethod := by decide +kernel
set_option maxRecDepth 65536 in
theorem w_hears : about1.hears theMethod below0 = true := by decide +kernel
set_option maxRecDepth 65536 in
theorem w_ripe : about1.ripe theMethod args0 below0 = true := by decide +kernel
theorem w_running : about1.status = .running := rfl
set_option maxRecDepth 65536 in
theorem w_room : about1.hasRoom e0.platform room_1 = true :=
  launch0.hasRoom_least _ room_1 (by decide +kernel) (by decide +kernel) (by decide +kernel) (by decide +kernel) (by decide +kernel) (by decide +kernel)
theorem allAtoms_all (ts : List Jvm.Cond) (a : Array Jvm.Value) (st : Jvm.State) : (allAtoms ts).before a st = ts.all (fun c => c.before a st) := by
  induction ts with
  | nil => rfl
  | cons c t ih =>
    show (Jvm.Cond.and c (allAtoms t)).before a st = _
    rw [Jvm.Cond.before_and, ih, List.all_cons]
def words1 : List Jvm.Cond := Jvm.Cond.code x code maxLocals ret :: tables_1
/-- a 'code' word, met by the world's own term for the bytes: nothing is compared byte by byte -/
theorem code_word {y : MethodName} {bytes : ByteArray} {mx : Nat} {rt : Option FieldType} {a : Array Value} {s : State} {m : MethodId} {meth : Method} {c : Code} (h1 : s.methodNamed? y = some m) (h2 : s.vm.method? m = some meth) (h3 : meth.code = some c) (h4 : c.code = bytes)
    (h5 : (c.maxLocals == mx && c.exceptionTable.isEmpty && decide (c.maxStack ≤ mostOperands) && decide (meth.sig.returnType = rt) && !meth.locks && decide (parseMethodDescriptor y.desc = some meth.sig)) = true) : (Jvm.Cond.code y bytes mx rt).before a s = true := by
  simp only [Bool.and_eq_true, beq_iff_eq, Bool.not_eq_true', decide_eq_true_eq] at h5
  obtain ⟨⟨⟨⟨⟨g1, g2⟩, g3⟩, g4⟩, g5⟩, g6⟩ := h5
  simp [Cond.before, Cond.holds, Cond.value, h1, h2, h3, h4, g1, g2, g3, g4, g5, g6]
def isCode : Jvm.Cond → Bool
  | .code _ _ _ _ => true
  | _ => false
theorem all_split {L : List Jvm.Cond} {P : Jvm.Cond → Bool} (h1 : L.all (fun c => isCode c || P c) = true) (h2 : ∀ c ∈ L.filter isCode, P c = true) : L.all P = true := by
  refine List.all_eq_true.mpr fun c hc => ?_
  have h := List.all_eq_true.mp h1 c hc
  rcases Bool.eq_false_or_eq_true (isCode c) with hi | hi
  · exact h2 c (List.mem_filter.mpr ⟨hc, hi⟩)
  · simpa [hi] using h
set_option maxRecDepth 65536 in
theorem w_c0 : (Jvm.Cond.code x code maxLocals ret).before args0 about1 = true := code_word (m := ⟨1, 1⟩) (meth := k1m1) (c := k1c1) (by decide +kernel) rfl rfl rfl (by decide +kernel)
set_option maxRecDepth 65536 in
theorem w_c1 : (Jvm.Cond.code ({ cls := "com/example/locktop/locktop/snapshot/Blocker$Backend", name := "<init>", desc := "(I)V" } : Jvm.MethodName) prog_28_method_1_code (2 : Nat) (Option.none : Option Jvm.ClassFile.FieldType)).before args0 about1 = true := code_word (m := ⟨5, 0⟩) (meth := k5m0) (c := k5c0) (by decide +kernel) rfl rfl rfl (by decide +kernel)
set_option maxRecDepth 65536 in
theorem w_c2 : (Jvm.Cond.code ({ cls := "java/lang/Record", name := "<init>", desc := "()V" } : Jvm.MethodName) jdk_30_method_1_code (1 : Nat) (Option.none : Option Jvm.ClassFile.FieldType)).before args0 about1 = true := code_word (m := ⟨2, 0⟩) (meth := k2m0) (c := k2c0) (by decide +kernel) rfl rfl rfl (by decide +kernel)
set_option maxRecDepth 65536 in
theorem w_c3 : (Jvm.Cond.code ({ cls := "java/lang/Object", name := "<init>", desc := "()V" } : Jvm.MethodName) object_method_1_code (1 : Nat) (Option.none : Option Jvm.ClassFile.FieldType)).before args0 about1 = true := code_word (m := ⟨0, 0⟩) (meth := k0m0) (c := k0c0) (by decide +kernel) rfl rfl rfl (by decide +kernel)
set_option maxRecDepth 65536 in
theorem w_c4 : (Jvm.Cond.code ({ cls := "java/lang/String", name := "valueOf", desc := "(C)Ljava/lang/String;" } : Jvm.MethodName) jdk_42_method_139_code (1 : Nat) (Option.some (Jvm.ClassFile.FieldType.object "java/lang/String"))).before args0 about1 = true := code_word (m := ⟨11, 1⟩) (meth := k11m1) (c := k11c1) (by decide +kernel) rfl rfl rfl (by decide +kernel)
set_option maxRecDepth 65536 in
theorem w_c5 : (Jvm.Cond.code ({ cls := "java/lang/StringLatin1", name := "canEncode", desc := "(C)Z" } : Jvm.MethodName) jdk_43_method_3_code (1 : Nat) (Option.some Jvm.ClassFile.FieldType.boolean)).before args0 about1 = true := code_word (m := ⟨12, 1⟩) (meth := k12m1) (c := k12c1) (by decide +kernel) rfl rfl rfl (by decide +kernel)
set_option maxRecDepth 65536 in
theorem w_c6 : (Jvm.Cond.code ({ cls := "java/lang/StringLatin1", name := "toBytes", desc := "(C)[B" } : Jvm.MethodName) jdk_43_method_46_code (1 : Nat) (Option.some (Jvm.ClassFile.FieldType.array Jvm.ClassFile.FieldType.byte))).before args0 about1 = true := code_word (m := ⟨12, 2⟩) (meth := k12m2) (c := k12c2) (by decide +kernel) rfl rfl rfl (by decide +kernel)
set_option maxRecDepth 65536 in
theorem w_c7 : (Jvm.Cond.code ({ cls := "java/lang/String", name := "<init>", desc := "([BB)V" } : Jvm.MethodName) jdk_42_method_151_code (3 : Nat) (Option.none : Option Jvm.ClassFile.FieldType)).before args0 about1 = true := code_word (m := ⟨11, 2⟩) (meth := k11m2) (c := k11c2) (by decide +kernel) rfl rfl rfl (by decide +kernel)
set_option maxRecDepth 65536 in
theorem w_c8 : (Jvm.Cond.code ({ cls := "com/example/locktop/locktop/snapshot/Blocker$Prepared", name := "<init>", desc := "(Ljava/lang/String;)V" } : Jvm.MethodName) prog_29_method_1_code (2 : Nat) (Option.none : Option Jvm.ClassFile.FieldType)).before args0 about1 = true := code_word (m := ⟨6, 0⟩) (meth := k6m0) (c := k6c0) (by decide +kernel) rfl rfl rfl (by decide +kernel)
set_option maxRecDepth 65536 in
theorem w_c9 : (Jvm.Cond.code ({ cls := "com/example/locktop/locktop/snapshot/Blocker$Backend", name := "equals", desc := "(Ljava/lang/Object;)Z" } : Jvm.MethodName) prog_28_method_2_code (3 : Nat) (Option.some Jvm.ClassFile.FieldType.boolean)).before args0 about1 = true := code_word (m := ⟨5, 1⟩) (meth := k5m1) (c := k5c1) (by decide +kernel) rfl rfl rfl (by decide +kernel)
set_option maxRecDepth 65536 in
theorem w_c10 : (Jvm.Cond.code ({ cls := "java/lang/Integer", name := "valueOf", desc := "(I)Ljava/lang/Integer;" } : Jvm.MethodName) jdk_33_method_22_code (1 : Nat) (Option.some (Jvm.ClassFile.FieldType.object "java/lang/Integer"))).before args0 about1 = true := code_word (m := ⟨14, 0⟩) (meth := k14m0) (c := k14c0) (by decide +kernel) rfl rfl rfl (by decide +kernel)
set_option maxRecDepth 65536 in
theorem w_c11 : (Jvm.Cond.code ({ cls := "java/lang/Integer", name := "<init>", desc := "(I)V" } : Jvm.MethodName) jdk_33_method_23_code (2 : Nat) (Option.none : Option Jvm.ClassFile.FieldType)).before args0 about1 = true := code_word (m := ⟨14, 1⟩) (meth := k14m1) (c := k14c1) (by decide +kernel) rfl rfl rfl (by decide +kernel)
set_option maxRecDepth 65536 in
theorem w_c12 : (Jvm.Cond.code ({ cls := "java/lang/Number", name := "<init>", desc := "()V" } : Jvm.MethodName) jdk_18_method_1_code (1 : Nat) (Option.none : Option Jvm.ClassFile.FieldType)).before args0 about1 = true := code_word (m := ⟨13, 0⟩) (meth := k13m0) (c := k13c0) (by decide +kernel) rfl rfl rfl (by decide +kernel)
def codes1 : List Jvm.Cond := [Jvm.Cond.code x code maxLocals ret, Jvm.Cond.code ({ cls := "com/example/locktop/locktop/snapshot/Blocker$Backend", name := "<init>", desc := "(I)V" } : Jvm.MethodName) prog_28_method_1_code (2 : Nat) (Option.none : Option Jvm.ClassFile.FieldType), Jvm.Cond.code ({ cls := "java/lang/Record", name := "<init>", desc := "()V" } : Jvm.MethodName) jdk_30_method_1_code (1 : Nat) (Option.none : Option Jvm.ClassFile.FieldType), Jvm.Cond.code ({ cls := "java/lang/Object", name := "<init>", desc := "()V" } : Jvm.MethodName) object_method_1_code (1 : Nat) (Option.none : Option Jvm.ClassFile.FieldType), Jvm.Cond.code ({ cls := "java/lang/String", name := "valueOf", desc := "(C)Ljava/lang/String;" } : Jvm.MethodName) jdk_42_method_139_code (1 : Nat) (Option.some (Jvm.ClassFile.FieldType.object "java/lang/String")), Jvm.Cond.code ({ cls := "java/lang/StringLatin1", name := "canEncode", desc := "(C)Z" } : Jvm.MethodName) jdk_43_method_3_code (1 : Nat) (Option.some Jvm.ClassFile.FieldType.boolean), Jvm.Cond.code ({ cls := "java/lang/StringLatin1", name := "toBytes", desc := "(C)[B" } : Jvm.MethodName) jdk_43_method_46_code (1 : Nat) (Option.some (Jvm.ClassFile.FieldType.array Jvm.ClassFile.FieldType.byte)), Jvm.Cond.code ({ cls := "java/lang/String", name := "<init>", desc := "([BB)V" } : Jvm.MethodName) jdk_42_method_151_code (3 : Nat) (Option.none : Option Jvm.ClassFile.FieldType), Jvm.Cond.code ({ cls := "com/example/locktop/locktop/snapshot/Blocker$Prepared", name := "<init>", desc := "(Ljava/lang/String;)V" } : Jvm.MethodName) prog_29_method_1_code (2 : Nat) (Option.none : Option Jvm.ClassFile.FieldType), Jvm.Cond.code ({ cls := "com/example/locktop/locktop/snapshot/Blocker$Backend", name := "equals", desc := "(Ljava/lang/Object;)Z" } : Jvm.MethodName) prog_28_method_2_code (3 : Nat) (Option.some Jvm.ClassFile.FieldType.boolean), Jvm.Cond.code ({ cls := "java/lang/Integer", name := "valueOf", desc := "(I)Ljava/lang/Integer;" } : Jvm.MethodName) jdk_33_method_22_code (1 : Nat) (Option.some (Jvm.ClassFile.FieldType.object "java/lang/Integer")), Jvm.Cond.code ({ cls := "java/lang/Integer", name := "<init>", desc := "(I)V" } : Jvm.MethodName) jdk_33_method_23_code (2 : Nat) (Option.none : Option Jvm.ClassFile.FieldType), Jvm.Cond.code ({ cls := "java/lang/Number", name := "<init>", desc := "()V" } : Jvm.MethodName) jdk_18_method_1_code (1 : Nat) (Option.none : Option Jvm.ClassFile.FieldType)]
set_option maxRecDepth 65536 in
theorem codes_eq : words1.filter isCode = codes1 := rfl
theorem w_codes : ∀ c ∈ words1.filter isCode, c.before args0 about1 = true := by
  rw [codes_eq]
  intro c hc
  simp only [codes1, List.mem_cons, List.not_mem_nil, or_false] at hc
  rcases hc with rfl | rfl | rfl | rfl | rfl | rfl | rfl | rfl | rfl | rfl | rfl | rfl | rfl
  · exact w_c0
  · exact w_c1
  · exact w_c2
  · exact w_c3
  · exact w_c4
  · exact w_c5
  · exact w_c6
  · exact w_c7
  · exact w_c8
  · exact w_c9
  · exact w_c10
  · exact w_c11
  · exact w_c12
set_option maxRecDepth 65536 in
theorem w_t1 : (words1.take 24).all (fun c => isCode c || c.before args0 about1) = true := by decide +kernel
set_option maxRecDepth 65536 in
theorem w_t2 : ((words1.drop 24).take 24).all (fun c => isCode c || c.before args0 about1) = true := by decide +kernel
set_option maxRecDepth 65536 in
theorem w_t3 : (((words1.drop 24).drop 24).take 24).all (fun c => isCode c || c.before args0 about1) = true := by decide +kernel
set_option maxRecDepth 65536 in
theorem w_t4 : (((words1.drop 24).drop 24).drop 24).all (fun c => isCode c || c.before args0 about1) = true := by decide +kernel
theorem w_tables : (allAtoms (Jvm.Cond.code x code maxLocals ret :: tables_1)).before args0 about1 = true := by
  rw [allAtoms_all]
  show words1.all (fun c => c.before args0 about1) = true
  refine all_split ?_ w_codes
  rw [← List.take_append_drop 24 words1, List.all_append, w_t1, ← List.take_append_drop 24 (words1.drop 24), List.all_append, w_t2, ← List.take_append_drop 24 ((words1.drop 24).drop 24), List.all_append, w_t3, w_t4]
  rfl
set_option maxRecDepth 65536 in
theorem w_rest : rest_1_c.before args0 about1 = true := by decide +kernel
set_option maxRecDepth 65536 in
theorem w_case : (Jvm.Cond.and given_1 narrow_1).before args0 about1 = true := by decide +kernel
theorem w_applies : (headSpec (Jvm.Cond.code x code maxLocals ret :: tables_1) room_1).applies x e0.platform about1 = true :=
  (Spec.applies_iff w_frames).mpr ⟨w_running, w_runnable, w_alone, w_named, w_hears, w_ripe, w_room, w_tables⟩
theorem atStart : AtStart classFile x code maxLocals ret World_1 tables_1 room_1 Calls_1 rest_1 Pre_1 launch0 p0 e0 about1 theMethod args0 below0 :=
  ⟨lists_1, trivial, launch0.admits_env _ _ _, launch0.least_env, fairChoices_fair.cas, fairChoices_fair.clock, w_frames, w_args, w_heap, w_applies, trivial, w_rest, w_case⟩
end start1
theorem witness_1 : WitnessClaimed_1 := ⟨start1.p0, start1.e0, start1.about1, start1.theMethod, start1.args0, start1.below0, start1.atStart⟩
end Jvm.Pilot.@@N@@
