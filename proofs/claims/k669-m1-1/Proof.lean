import JvmDerived
import JvmDerived.Pilot.@@N@@Statement
import JvmDerived.Pilot.@@N@@Code
set_option linter.unusedVariables false
set_option linter.unusedSimpArgs false
namespace Jvm.RoadKit
open Sem ClassFile Op Lib Jvm.Stand Jvm.Free Jvm.LawKit
section New
variable {p : Program} {l : Launch} {e : Env} {R : Room} {s : State} {m : MethodId} {args : Array Value} {below : List Frame} {meth : Method} {c : Code} {T : State} {locs : List Loc} {cells slots : Nat}
theorem retI (X : Stand p l e R s m args below meth c T locs cells slots) (hx : p.tables.exec = Jvm.exec) {pc : Nat} {Ls : Array Slot} {z : Int32} {rest : List Value} (hret : meth.sig.returnType = some .int) (hd : decode c.code pc = .ok (.ireturn, 1)) {fs : List Frame}
    (hl : ∀ (f : JFrame) (acts : List Action), f.method = m → f.locked = none → f.entered = [] → (doReturn e (T.setTop f) acts (some (.int z))).1 = T.setFrames fs) : Steps p.tables e below (T.setTop (mkF m pc Ls (.int z :: rest))) (T.setFrames fs) := by
  have hm' : T.vm.method? m = some meth := X.method'
  have hn : narrow .int (.int z) = .int z := rfl
  show Steps p.tables e below (T.setTop { method := m, pc := pc, locals := Ls, stack := _ :: rest, locked := none }) _
  jvm_step X.here [X.here.top, hx, hd, hm', hret, hn]
  first | (intro acts; rw [hl _ acts rfl rfl rfl]) | rw [hl _ _ rfl rfl rfl]
  exact Steps.refl _
end New
end Jvm.RoadKit
namespace Jvm.Pilot.@@N@@
open Jvm Jvm.ClassFile Sem Op Lib Jvm.Free Jvm.Stand Jvm.LawKit Jvm.RoadKit Bundle Jvm.Pilot.@@N@@.Jvm.D
theorem own_refc {v : Value} (h : v.isRef = true) : v = .null ∨ ∃ a, v = .ref a := by cases v <;> simp_all [Value.isRef]
theorem own_narR {t : FieldType} {v : Value} (h : v.isRef = true) : narrow t v = v := by rcases own_refc h with rfl | ⟨_, rfl⟩ <;> cases t <;> rfl
theorem own_le {Z : State} {n0 : Nat} {h : Heap} (O : Old Z n0 h) : n0 ≤ h.size := O.1 ▸ O.2.1
theorem own_fitR {t : FieldType} {v : Value} (ht : refKind t = true) (h : v.isRef = true) : fits t v = true := by rcases own_refc h with rfl | ⟨_, rfl⟩ <;> cases t <;> simp_all [refKind, fits]
theorem own_root {Z : State} {a0 : Array Value} {O K : String} {n : Nat} (w : (Jvm.Cond.noSuperclass O).before a0 Z = true) (wk : (Jvm.Cond.instantiable K n).before a0 Z = true) (hn : O ≠ K) : NS Z O K := by
  obtain ⟨c, k, h1, h2, h3, -, -⟩ := Cond.noSuperclass_spec w
  obtain ⟨t, k2, g1, -⟩ := Cond.instantiable_spec wk
  have ne := ids_ne h1 g1 hn
  refine ⟨c, t, h1, g1, fun fuel => ?_⟩
  cases fuel with
  | zero => rfl
  | succ f => simp [Vm.isSubclassAux, ne, h2, h3]
theorem own_no {Z : State} {a0 : Array Value} {C S K : String} {n : Nat} (w : (Jvm.Cond.superclass C S).before a0 Z = true) (wk : (Jvm.Cond.instantiable K n).before a0 Z = true) (ns : NS Z C K) (hn : C ≠ K) : ∃ c t, Z.vm.findClass C = some c ∧ Z.vm.findClass K = some t ∧ Z.vm.assignable c t = false := by
  obtain ⟨c, t, h0, g0, n3⟩ := ns
  obtain ⟨p, k, kp, h1, h2, h3, h4, h5, -, h7⟩ := Cond.superclass_spec h0 w
  obtain ⟨q, k', g1, g2, g3, g4, -⟩ := Cond.instantiable_spec wk
  cases g0.symm.trans g1
  have ne := ids_ne h0 g0 hn
  have g5 : k'.isInterface = false := by cases hi : k'.isInterface <;> simp_all
  refine ⟨c, t, h0, g0, ?_⟩
  show Z.vm.assignableAux (255 + 1) c t = false
  simp [Vm.assignableAux, ne, h2, g2, h5, g3, g5, Vm.isSubclass, n3]
theorem own_b8 (x : Int32) : x.toInt8.toInt32.toInt8.toInt32 = x.toInt8.toInt32 := by simp
theorem own_ti {k q : Int32} {n : Int} (e : q.toInt = n) (h : n = k.toInt) : k = q := Int32.toInt_inj.mp (h.symm.trans e.symm)
theorem ne_arv {Z : State} {h : Heap} {a b : Addr} {C : String} {a0 : Array Value} {k : Nat} {kc : ClassId} {ty : FieldType} {z : Int32} {vs : List Value} {dv : Value} (F : Exa Z h a C) (wi : (Jvm.Cond.instantiable C k).before a0 Z = true) (G : Arv Z h b kc ty z vs dv) : a ≠ b := by obtain ⟨c, A, -⟩ := G; exact ne_arr F wi A
theorem own_eqi {t : Term} {n : Int32} {args : Array Value} {s : State} (h : (Jvm.Cond.eq t (.int n)).value args s none s [] = some true) : t.eval args s none [] s = some (.int n) := by
  simp only [Jvm.Cond.value] at h
  have hn : (Term.int n).eval args s none [] s = some (.int n) := rfl
  rw [hn] at h
  cases hv : t.eval args s none [] s with
  | none => simp [hv] at h
  | some x => cases x <;> simp [hv] at h ⊢; exact h
theorem d1_0 : decode prog_22_method_5_code 0 = .ok (.aload_n 0, 1) := by decide +kernel
theorem d1_1 : decode prog_22_method_5_code 1 = .ok (.getstatic 3, 3) := by decide +kernel
theorem d1_4 : decode prog_22_method_5_code 4 = .ok (.if_acmp .ne 9, 3) := by decide +kernel
theorem d1_7 : decode prog_22_method_5_code 7 = .ok (.getstatic 7, 3) := by decide +kernel
theorem d1_10 : decode prog_22_method_5_code 10 = .ok (.goto 6, 3) := by decide +kernel
theorem d1_16 : decode prog_22_method_5_code 16 = .ok (.areturn, 1) := by decide +kernel
theorem d1_13 : decode prog_22_method_5_code 13 = .ok (.getstatic 3, 3) := by decide +kernel
theorem pn_com_example_ulinzi_ulinzi_model_OwnerName : plainName "com/example/ulinzi/ulinzi/model/OwnerName" = true := by first | (simp [plainName, overriddenIn]; done) | decide +kernel
theorem ef_rm1 (m : MethodId) (a1 : Addr) : entryFrame m #[(.ref a1)] 1 = mkF m 0 #[.val (.ref a1)] [] := by first | (simp [entryFrame, mkF, argsToLocals, Value.category]; done) | rfl
def Q_rm1 (Z : State) (a1 : Addr) (wt : Addr) (wp : Addr) (r : Addr) (h0 : Heap) (n0 : Nat) (v : Option Value) (h : Heap) (L : List Loc) : Prop := v = some (.ref r) ∧ Fr n0 L ∧ h = h0
set_option maxRecDepth 65536 in
set_option maxHeartbeats 40000000 in
theorem rm1 (l : Launch) (Z : State) (av0 : Array Value) (hw : ∀ d ∈ tables_1, d.before av0 Z = true) (ws : List Jvm.Cond) (a1 : Addr) (wt : Addr) (wp : Addr) (r : Addr) (h0 : Heap) (n0 : Nat) (Z0 : n0 ≤ h0.size) (p0_O : Old Z n0 h0) (p1_S : Sta Z Z.heap "com/example/ulinzi/ulinzi/model/OwnerName" "TENANT" "Lcom/example/ulinzi/ulinzi/model/OwnerName;" (.ref wt)) (p2_S : Sta Z Z.heap "com/example/ulinzi/ulinzi/model/OwnerName" "PROJECT" "Lcom/example/ulinzi/ulinzi/model/OwnerName;" (.ref wp)) (hr : (a1 = wt → r = wp) ∧ (¬ (a1 = wt) → r = wt)) :
    MetFree l (⟨"com/example/ulinzi/ulinzi/model/OwnerName", "other", "()Lcom/example/ulinzi/ulinzi/model/OwnerName;"⟩ : MethodName) (head1 (Jvm.Cond.code (⟨"com/example/ulinzi/ulinzi/model/OwnerName", "other", "()Lcom/example/ulinzi/ulinzi/model/OwnerName;"⟩ : MethodName) prog_22_method_5_code 1 (some (.object "com/example/ulinzi/ulinzi/model/OwnerName")) :: ws) ({ frames := 0, cells := 0, slots := 0, locals := 0 } : Room)) (fun a U => a = #[(.ref a1)] ∧ Z.Warmed39 U.vm ∧ U.heap = h0) (fun _ _ _ _ _ => True) (fun _ U o U' => ∃ v L, o = .returned v ∧ Q_rm1 Z a1 wt wp r h0 n0 v U'.heap L ∧ FrameEnd U o U' L ({ frames := 0, cells := 0, slots := 0, locals := 0 } : Room).cells ({ frames := 0, cells := 0, slots := 0, locals := 0 } : Room).slots) := by
  refine MetFree.of_bodySF (plainFor_of_name pn_com_example_ulinzi_ulinzi_model_OwnerName) hisR ?_
  intro p e s m args below meth c s₁ Bd hml0 hP hK
  obtain ⟨rfl, hZ, hh⟩ := hP
  have hx := Bd.exec
  have hby := Bd.bytes
  have hml : c.maxLocals = 1 := hml0
  have hown : s.vm.findClass "com/example/ulinzi/ulinzi/model/OwnerName" = some m.cls := findClass_of_methodNamed Bd.named
  have hnm := (name_of_methodNamed Bd.named Bd.method).1
  have X0 : Stand p l e ({ frames := 0, cells := 0, slots := 0, locals := 0 } : Room) s m #[(.ref a1)] below meth c s₁ [] 0 0 := Stand.of_body Bd
  have e0 : s₁.heap = h0 := by rw [← hh, Bd.state]; rfl
  have N0 := Fr.nil n0
  have pre0 : ∀ tz_, Steps p.tables e below (s₁.setTop (mkF m 0 #[.val (.ref a1)] [])) tz_ → Steps p.tables e below (s₁.setTop (entryFrame m #[(.ref a1)] 1)) tz_ := fun tz_ kz_ => castTop (ef_rm1 m a1) kz_
  obtain ⟨T31, X31, e31, st31⟩ := getS2 X0 hx hZ hown (host := "") (Or.inl (hw _ (List.mem_of_getElem? (i := 10) rfl))) Via.refl e0 (p1_S.ext p0_O.2) (g := (mkF m 1 #[.val (.ref a1)] [(.ref a1)])) rfl (hb hby d1_1)
  have pre32 : ∀ tz_, Steps p.tables e below (T31.setTop (mkF m 4 #[.val (.ref a1)] [(.ref wt), (.ref a1)])) tz_ → Steps p.tables e below (s₁.setTop (entryFrame m #[(.ref a1)] 1)) tz_ := fun tz_ kk => pre0 tz_ (by
    show Steps p.tables e below (s₁.setTop (mkF m 0 #[.val (.ref a1)] [])) _
    refine XS.aloadN X0.here hx rfl (hb hby d1_0) rfl rfl ?_
    show Steps p.tables e below (s₁.setTop (mkF m 1 #[.val (.ref a1)] [(.ref a1)])) _
    refine st31 _ ?_
    exact kk)
  by_cases hc33 : a1 = wt
  · skip
    obtain ⟨T34, X34, e34, st34⟩ := getS2 X31 hx hZ hown (host := "") (Or.inl (hw _ (List.mem_of_getElem? (i := 11) rfl))) Via.refl e31 (p2_S.ext p0_O.2) (g := (mkF m 7 #[.val (.ref a1)] [])) rfl (hb hby d1_7)
    obtain ⟨fs, hrL, hrun, hended, hW, hsame⟩ := X34.leave (v := some (.ref wp)) (fun h => by rw [Bd.returns] at h; cases h)
    refine ⟨_, _, pre32 _ ?_, hrun, hended, _, _, rfl, ?_, ⟨_, rfl⟩, hW, hsame.mono (by decide) (by decide)⟩
    · show Steps p.tables e below (T31.setTop (mkF m 4 #[.val (.ref a1)] [(.ref wt), (.ref a1)])) _
      refine Jvm.RoadKit.acmp (g := (mkF m 4 #[.val (.ref a1)] [(.ref wt), (.ref a1)])) X31 hx rfl rfl rfl (pc0 := 4) (pc' := 7) (same := true) rfl (hb hby d1_4) rfl (decide_eq_true (congrArg Value.ref hc33)) (by decide) (by decide) ?_
      show Steps p.tables e below (T31.setTop (mkF m 7 #[.val (.ref a1)] [])) _
      refine st34 _ ?_
      refine XS.goto X34.here hx rfl (pc0 := 10) (pc' := 16) rfl (hb hby d1_10) (by decide) (by decide) ?_
      show Steps p.tables e below (T34.setTop (mkF m 16 #[.val (.ref a1)] [(.ref wp)])) _
      exact retOut X34 hx Bd.returns rfl (Or.inr (Or.inr (Or.inr (Or.inr ⟨rfl, rfl, rfl⟩)))) (hb hby d1_16) hrL
    · show Q_rm1 _ _ _ _ _ _ _ _  T34.heap _
      rw [e34]
      exact ⟨congrArg (fun z => some (Value.ref z)) (hr.1 hc33).symm, N0, rfl⟩
  · skip
    obtain ⟨T35, X35, e35, st35⟩ := getS2 X31 hx hZ hown (host := "") (Or.inl (hw _ (List.mem_of_getElem? (i := 10) rfl))) Via.refl e31 (p1_S.ext p0_O.2) (g := (mkF m 13 #[.val (.ref a1)] [])) rfl (hb hby d1_13)
    obtain ⟨fs, hrL, hrun, hended, hW, hsame⟩ := X35.leave (v := some (.ref wt)) (fun h => by rw [Bd.returns] at h; cases h)
    refine ⟨_, _, pre32 _ ?_, hrun, hended, _, _, rfl, ?_, ⟨_, rfl⟩, hW, hsame.mono (by decide) (by decide)⟩
    · show Steps p.tables e below (T31.setTop (mkF m 4 #[.val (.ref a1)] [(.ref wt), (.ref a1)])) _
      refine Jvm.RoadKit.acmp (g := (mkF m 4 #[.val (.ref a1)] [(.ref wt), (.ref a1)])) X31 hx rfl rfl rfl (pc0 := 4) (pc' := 13) (same := false) rfl (hb hby d1_4) rfl (decide_eq_false fun q => hc33 (Value.ref.inj q)) (by decide) (by decide) ?_
      show Steps p.tables e below (T31.setTop (mkF m 13 #[.val (.ref a1)] [])) _
      refine st35 _ ?_
      show Steps p.tables e below (T35.setTop (mkF m 16 #[.val (.ref a1)] [(.ref wt)])) _
      exact retOut X35 hx Bd.returns rfl (Or.inr (Or.inr (Or.inr (Or.inr ⟨rfl, rfl, rfl⟩)))) (hb hby d1_16) hrL
    · show Q_rm1 _ _ _ _ _ _ _ _  T35.heap _
      rw [e35]
      exact ⟨congrArg (fun z => some (Value.ref z)) (hr.2 hc33).symm, N0, rfl⟩
theorem pd_0 : parseMethodDescriptor "()Lcom/example/ulinzi/ulinzi/model/OwnerName;" = some ⟨[], some (.object "com/example/ulinzi/ulinzi/model/OwnerName")⟩ := by decide +kernel
theorem pn_com_example_ulinzi_ulinzi_model_OwnerNameOtherPinLaw : plainName "com/example/ulinzi/ulinzi/model/OwnerNameOtherPinLaw" = true := by first | (simp [plainName, overriddenIn]; done) | decide +kernel
theorem ef_rm0 (m : MethodId) (k : Int32) : entryFrame m #[(.int k)] maxLocals = mkF m 0 #[.val (.int k), .unset, .unset, .unset, .unset] [] := by first | (simp [entryFrame, mkF, argsToLocals, Value.category, maxLocals]; done) | rfl
def Q_rm0 (Z : State) (k : Int32) (wt : Addr) (wp : Addr) (h0 : Heap) (n0 : Nat) (v : Option Value) (h : Heap) (L : List Loc) : Prop := v = some (.int 1) ∧ Fr n0 L ∧ h = h0
set_option maxRecDepth 65536 in
set_option maxHeartbeats 40000000 in
theorem rm0 (l : Launch) (Z : State) (av0 : Array Value) (hw : ∀ d ∈ tables_1, d.before av0 Z = true) (ws : List Jvm.Cond) (k : Int32) (wt : Addr) (wp : Addr) (h0 : Heap) (n0 : Nat) (Z0 : n0 ≤ h0.size) (p0_O : Old Z n0 h0) (p1_S : Sta Z Z.heap "com/example/ulinzi/ulinzi/model/OwnerName" "TENANT" "Lcom/example/ulinzi/ulinzi/model/OwnerName;" (.ref wt)) (p2_S : Sta Z Z.heap "com/example/ulinzi/ulinzi/model/OwnerName" "PROJECT" "Lcom/example/ulinzi/ulinzi/model/OwnerName;" (.ref wp)) (p3_E : Exa Z h0 wt "com/example/ulinzi/ulinzi/model/OwnerName") (p4_E : Exa Z h0 wp "com/example/ulinzi/ulinzi/model/OwnerName") (hne : ¬ (wp = wt)) :
    MetFree l x (head1 (Jvm.Cond.code x code maxLocals ret :: ws) room_1) (fun a U => a = #[(.int k)] ∧ Z.Warmed39 U.vm ∧ U.heap = h0) (fun _ _ _ _ _ => True) (fun _ U o U' => ∃ v L, o = .returned v ∧ Q_rm0 Z k wt wp h0 n0 v U'.heap L ∧ FrameEnd U o U' L room_1.cells room_1.slots) := by
  refine MetFree.of_bodySF (plainFor_of_name pn_com_example_ulinzi_ulinzi_model_OwnerNameOtherPinLaw) hisR ?_
  intro p e s m args below meth c s₁ Bd hml0 hP hK
  obtain ⟨rfl, hZ, hh⟩ := hP
  have hx := Bd.exec
  have hby := Bd.bytes
  have hml : c.maxLocals = 5 := hml0
  have hown : s.vm.findClass "com/example/ulinzi/ulinzi/model/OwnerNameOtherPinLaw" = some m.cls := findClass_of_methodNamed Bd.named
  have hnm := (name_of_methodNamed Bd.named Bd.method).1
  have X0 : Stand p l e room_1 s m #[(.int k)] below meth c s₁ [] 0 0 := Stand.of_body Bd
  have e0 : s₁.heap = h0 := by rw [← hh, Bd.state]; rfl
  have N0 := Fr.nil n0
  have pre0 : ∀ tz_, Steps p.tables e below (s₁.setTop (mkF m 0 #[.val (.int k), .unset, .unset, .unset, .unset] [])) tz_ → Steps p.tables e below (s₁.setTop (entryFrame m #[(.int k)] maxLocals)) tz_ := fun tz_ kz_ => castTop (ef_rm0 m k) kz_
  have pre31 : ∀ tz_, Steps p.tables e below (s₁.setTop (mkF m 3 #[.val (.int k), .unset, .unset, .unset, .unset] [(.int (k &&& (1 : Int32)))])) tz_ → Steps p.tables e below (s₁.setTop (entryFrame m #[(.int k)] maxLocals)) tz_ := fun tz_ kk => pre0 tz_ (by
    show Steps p.tables e below (s₁.setTop (mkF m 0 #[.val (.int k), .unset, .unset, .unset, .unset] [])) _
    refine XS.iloadN X0.here hx rfl (hb hby at_0) rfl ?_
    refine XS.iconst X0.here hx rfl (hb hby at_1) ?_
    show Steps p.tables e below (s₁.setTop (mkF m 2 #[.val (.int k), .unset, .unset, .unset, .unset] [(.int 1), (.int k)])) _
    refine XS.iand X0.here hx rfl (hb hby at_2) rfl ?_
    exact kk)
  by_cases hc32 : (k &&& (1 : Int32)) = (0 : Int32)
  · skip
    obtain ⟨T33, X33, e33, st33⟩ := getS2 X0 hx hZ hown (host := "") (Or.inl (hw _ (List.mem_of_getElem? (i := 0) rfl))) Via.refl e0 (p1_S.ext p0_O.2) (g := (mkF m 22 #[.val (.int k), .val (.int 0), .unset, .unset, .unset] [])) rfl (hb hby at_22)
    obtain ⟨T34, X34, e34, st34⟩ := getS2 X33 hx hZ hown (host := "") (Or.inl (hw _ (List.mem_of_getElem? (i := 3) rfl))) Via.refl e33 (p2_S.ext p0_O.2) (g := (mkF m 36 #[.val (.int k), .val (.int 0), .val (.ref wt), .unset, .unset] [])) rfl (hb hby at_36)
    -- pc 41: OwnerName.other
    obtain ⟨cq35, kq35, q35a, q35b, q35c⟩ := isOf hZ e34 p3_E
    obtain ⟨_, _, ⟨T35, L35, k35, n35⟩, -, X35, ⟨Lc35, hQ35, l35, y35, z35⟩, st35⟩ := X34.virtualBack hx (y := (⟨"com/example/ulinzi/ulinzi/model/OwnerName", "other", "()Lcom/example/ulinzi/ulinzi/model/OwnerName;"⟩ : MethodName)) (z := (⟨"com/example/ulinzi/ulinzi/model/OwnerName", "other", "()Lcom/example/ulinzi/ulinzi/model/OwnerName;"⟩ : MethodName)) hown (mvT hZ (hw _ (List.mem_of_getElem? (i := 5) rfl))) (mvT hZ (hw _ (List.mem_of_getElem? (i := 6) rfl))) (notFace_of_selects (args := #[]) (mvT hZ (hw _ (List.mem_of_getElem? (i := 8) rfl)))) (mvT hZ (hw _ (List.mem_of_getElem? (i := 8) rfl))) (mvT hZ (hw _ (List.mem_of_getElem? (i := 7) rfl))) (by decide) (backOf (W := 0) (rm1 l Z av0 hw [] wt wt wp wp h0 n0 (own_le p0_O) p0_O p1_S p2_S (⟨fun _ => rfl, fun h => absurd rfl h⟩ : (wt = wt → wp = wp) ∧ (¬ (wt = wt) → wp = wt))) hZ (hw _ (List.mem_of_getElem? (i := 9) rfl)) (hw _ (List.mem_of_getElem? (i := 1) rfl)) (by decide) (by decide)) q35a q35c (g := (mkF m 41 #[.val (.int k), .val (.int 0), .val (.ref wt), .val (.ref wp), .unset] [(.ref wt)])) rfl (by rw [hml]; rfl) (Steps.refl _) (argsL := []) (rest := []) (lenOf pd_0 rfl) rfl (by show 2 * 0 + _ ≤ _; exact Nat.le_of_eq rfl) (hb hby at_41) (fun vmx hWx => ⟨rfl, e34, (by decide : 0 + 0 ≤ _), (by decide : 0 + 0 ≤ _)⟩)
    dsimp only [Pt.U, Pt.locs, Pt.cells, Pt.slots] at X35 l35 y35 z35 st35 hQ35
    subst l35 y35 z35
    obtain ⟨rv35, Nq35, Kq35⟩ := hQ35
    subst rv35
    have N35 := Fr.app N0 Nq35
    -- pc 60: OwnerName.other
    obtain ⟨cq36, kq36, q36a, q36b, q36c⟩ := isOf hZ Kq35 p4_E
    obtain ⟨_, _, ⟨T36, L36, k36, n36⟩, -, X36, ⟨Lc36, hQ36, l36, y36, z36⟩, st36⟩ := X35.virtualBack hx (y := (⟨"com/example/ulinzi/ulinzi/model/OwnerName", "other", "()Lcom/example/ulinzi/ulinzi/model/OwnerName;"⟩ : MethodName)) (z := (⟨"com/example/ulinzi/ulinzi/model/OwnerName", "other", "()Lcom/example/ulinzi/ulinzi/model/OwnerName;"⟩ : MethodName)) hown (mvT hZ (hw _ (List.mem_of_getElem? (i := 5) rfl))) (mvT hZ (hw _ (List.mem_of_getElem? (i := 6) rfl))) (notFace_of_selects (args := #[]) (mvT hZ (hw _ (List.mem_of_getElem? (i := 8) rfl)))) (mvT hZ (hw _ (List.mem_of_getElem? (i := 8) rfl))) (mvT hZ (hw _ (List.mem_of_getElem? (i := 7) rfl))) (by decide) (backOf (W := 0) (rm1 l Z av0 hw [] wp wt wp wt h0 n0 (own_le p0_O) p0_O p1_S p2_S (⟨fun h => absurd h hne, fun _ => rfl⟩ : (wp = wt → wt = wp) ∧ (¬ (wp = wt) → wt = wt))) hZ (hw _ (List.mem_of_getElem? (i := 9) rfl)) (hw _ (List.mem_of_getElem? (i := 1) rfl)) (by decide) (by decide)) q36a q36c (g := (mkF m 60 #[.val (.int k), .val (.int 0), .val (.ref wt), .val (.ref wp), .val (.ref wp)] [(.ref wp)])) rfl (by rw [hml]; rfl) (Steps.refl _) (argsL := []) (rest := []) (lenOf pd_0 rfl) rfl (by show 2 * 0 + _ ≤ _; exact Nat.le_of_eq rfl) (hb hby at_60) (fun vmx hWx => ⟨rfl, Kq35, (by decide : 0 + 0 ≤ _), (by decide : 0 + 0 ≤ _)⟩)
    dsimp only [Pt.U, Pt.locs, Pt.cells, Pt.slots] at X36 l36 y36 z36 st36 hQ36
    subst l36 y36 z36
    obtain ⟨rv36, Nq36, Kq36⟩ := hQ36
    subst rv36
    have N36 := Fr.app N35 Nq36
    obtain ⟨fs, hrL, hrun, hended, hW, hsame⟩ := X36.leave (v := some (.int 1)) (fun h => by rw [Bd.returns] at h; cases h)
    refine ⟨_, _, pre31 _ ?_, hrun, hended, _, _, rfl, ?_, ⟨_, rfl⟩, hW, hsame.mono (by decide) (by decide)⟩
    · show Steps p.tables e below (s₁.setTop (mkF m 3 #[.val (.int k), .unset, .unset, .unset, .unset] [(.int (k &&& (1 : Int32)))])) _
      refine XS.ifYes X0.here hx rfl (pc0 := 3) (pc' := 10) rfl (hb hby at_3) rfl ((if0 _ _).trans (teq hc32).1) (by decide) (by decide) ?_
      refine XS.iconst X0.here hx rfl (hb hby at_10) ?_
      refine XS.istoreN X0.here hx rfl (hb hby at_11) rfl (l' := #[.val (.int k), .val (.int 0), .unset, .unset, .unset]) rfl ?_
      refine XS.iloadN X0.here hx rfl (hb hby at_12) rfl ?_
      show Steps p.tables e below (s₁.setTop (mkF m 13 #[.val (.int k), .val (.int 0), .unset, .unset, .unset] [(.int 0)])) _
      refine XS.ifYes X0.here hx rfl (pc0 := 13) (pc' := 22) rfl (hb hby at_13) rfl ((if0 _ _).trans (teq (by decide : (0 : Int32) = (0 : Int32))).1) (by decide) (by decide) ?_
      show Steps p.tables e below (s₁.setTop (mkF m 22 #[.val (.int k), .val (.int 0), .unset, .unset, .unset] [])) _
      refine st33 _ ?_
      refine XS.astoreN X33.here hx rfl (hb hby at_25) rfl rfl (l' := #[.val (.int k), .val (.int 0), .val (.ref wt), .unset, .unset]) rfl ?_
      refine XS.iloadN X33.here hx rfl (hb hby at_26) rfl ?_
      show Steps p.tables e below (T33.setTop (mkF m 27 #[.val (.int k), .val (.int 0), .val (.ref wt), .unset, .unset] [(.int 0)])) _
      refine XS.ifYes X33.here hx rfl (pc0 := 27) (pc' := 36) rfl (hb hby at_27) rfl ((if0 _ _).trans (teq (by decide : (0 : Int32) = (0 : Int32))).1) (by decide) (by decide) ?_
      show Steps p.tables e below (T33.setTop (mkF m 36 #[.val (.int k), .val (.int 0), .val (.ref wt), .unset, .unset] [])) _
      refine st34 _ ?_
      refine XS.astoreN X34.here hx rfl (hb hby at_39) rfl rfl (l' := #[.val (.int k), .val (.int 0), .val (.ref wt), .val (.ref wp), .unset]) rfl ?_
      refine XS.aloadN X34.here hx rfl (hb hby at_40) rfl rfl ?_
      show Steps p.tables e below (T34.setTop (mkF m 41 #[.val (.int k), .val (.int 0), .val (.ref wt), .val (.ref wp), .unset] [(.ref wt)])) _
      refine st35.trans ?_
      refine XS.astore X35.here hx rfl (hb hby at_44) rfl rfl (l' := #[.val (.int k), .val (.int 0), .val (.ref wt), .val (.ref wp), .val (.ref wp)]) rfl ?_
      refine XS.aload X35.here hx rfl (hb hby at_46) rfl rfl ?_
      refine XS.aloadN X35.here hx rfl (hb hby at_48) rfl rfl ?_
      show Steps p.tables e below (T35.setTop (mkF m 49 #[.val (.int k), .val (.int 0), .val (.ref wt), .val (.ref wp), .val (.ref wp)] [(.ref wp), (.ref wp)])) _
      refine Jvm.RoadKit.acmp (g := (mkF m 49 #[.val (.int k), .val (.int 0), .val (.ref wt), .val (.ref wp), .val (.ref wp)] [(.ref wp), (.ref wp)])) X35 hx rfl rfl rfl (pc0 := 49) (pc' := 52) (same := true) rfl (hb hby at_49) rfl (decide_eq_true rfl) (by decide) (by decide) ?_
      refine XS.aload X35.here hx rfl (hb hby at_52) rfl rfl ?_
      refine XS.aloadN X35.here hx rfl (hb hby at_54) rfl rfl ?_
      show Steps p.tables e below (T35.setTop (mkF m 55 #[.val (.int k), .val (.int 0), .val (.ref wt), .val (.ref wp), .val (.ref wp)] [(.ref wt), (.ref wp)])) _
      refine Jvm.RoadKit.acmp (g := (mkF m 55 #[.val (.int k), .val (.int 0), .val (.ref wt), .val (.ref wp), .val (.ref wp)] [(.ref wt), (.ref wp)])) X35 hx rfl rfl rfl (pc0 := 55) (pc' := 58) (same := false) rfl (hb hby at_55) rfl (decide_eq_false fun q => hne (Value.ref.inj q)) (by decide) (by decide) ?_
      show Steps p.tables e below (T35.setTop (mkF m 58 #[.val (.int k), .val (.int 0), .val (.ref wt), .val (.ref wp), .val (.ref wp)] [])) _
      refine XS.aload X35.here hx rfl (hb hby at_58) rfl rfl ?_
      show Steps p.tables e below (T35.setTop (mkF m 60 #[.val (.int k), .val (.int 0), .val (.ref wt), .val (.ref wp), .val (.ref wp)] [(.ref wp)])) _
      refine st36.trans ?_
      refine XS.aloadN X36.here hx rfl (hb hby at_63) rfl rfl ?_
      show Steps p.tables e below (T36.setTop (mkF m 64 #[.val (.int k), .val (.int 0), .val (.ref wt), .val (.ref wp), .val (.ref wp)] [(.ref wt), (.ref wt)])) _
      refine Jvm.RoadKit.acmp (g := (mkF m 64 #[.val (.int k), .val (.int 0), .val (.ref wt), .val (.ref wp), .val (.ref wp)] [(.ref wt), (.ref wt)])) X36 hx rfl rfl rfl (pc0 := 64) (pc' := 67) (same := true) rfl (hb hby at_64) rfl (decide_eq_true rfl) (by decide) (by decide) ?_
      show Steps p.tables e below (T36.setTop (mkF m 67 #[.val (.int k), .val (.int 0), .val (.ref wt), .val (.ref wp), .val (.ref wp)] [])) _
      refine XS.iconst X36.here hx rfl (hb hby at_67) ?_
      refine XS.goto X36.here hx rfl (pc0 := 68) (pc' := 72) rfl (hb hby at_68) (by decide) (by decide) ?_
      show Steps p.tables e below (T36.setTop (mkF m 72 #[.val (.int k), .val (.int 0), .val (.ref wt), .val (.ref wp), .val (.ref wp)] [(.int 1)])) _
      exact retN X36 hx (t := .boolean) Bd.returns (by simp) (hb hby at_72) hrL
    · show Q_rm0 _ _ _ _ _ _ _  T36.heap _
      rw [Kq36]
      exact ⟨rfl, N36, rfl⟩
  · skip
    obtain ⟨T37, X37, e37, st37⟩ := getS2 X0 hx hZ hown (host := "") (Or.inl (hw _ (List.mem_of_getElem? (i := 3) rfl))) Via.refl e0 (p2_S.ext p0_O.2) (g := (mkF m 16 #[.val (.int k), .val (.int 1), .unset, .unset, .unset] [])) rfl (hb hby at_16)
    obtain ⟨T38, X38, e38, st38⟩ := getS2 X37 hx hZ hown (host := "") (Or.inl (hw _ (List.mem_of_getElem? (i := 0) rfl))) Via.refl e37 (p1_S.ext p0_O.2) (g := (mkF m 30 #[.val (.int k), .val (.int 1), .val (.ref wp), .unset, .unset] [])) rfl (hb hby at_30)
    -- pc 41: OwnerName.other
    obtain ⟨cq39, kq39, q39a, q39b, q39c⟩ := isOf hZ e38 p4_E
    obtain ⟨_, _, ⟨T39, L39, k39, n39⟩, -, X39, ⟨Lc39, hQ39, l39, y39, z39⟩, st39⟩ := X38.virtualBack hx (y := (⟨"com/example/ulinzi/ulinzi/model/OwnerName", "other", "()Lcom/example/ulinzi/ulinzi/model/OwnerName;"⟩ : MethodName)) (z := (⟨"com/example/ulinzi/ulinzi/model/OwnerName", "other", "()Lcom/example/ulinzi/ulinzi/model/OwnerName;"⟩ : MethodName)) hown (mvT hZ (hw _ (List.mem_of_getElem? (i := 5) rfl))) (mvT hZ (hw _ (List.mem_of_getElem? (i := 6) rfl))) (notFace_of_selects (args := #[]) (mvT hZ (hw _ (List.mem_of_getElem? (i := 8) rfl)))) (mvT hZ (hw _ (List.mem_of_getElem? (i := 8) rfl))) (mvT hZ (hw _ (List.mem_of_getElem? (i := 7) rfl))) (by decide) (backOf (W := 0) (rm1 l Z av0 hw [] wp wt wp wt h0 n0 (own_le p0_O) p0_O p1_S p2_S (⟨fun h => absurd h hne, fun _ => rfl⟩ : (wp = wt → wt = wp) ∧ (¬ (wp = wt) → wt = wt))) hZ (hw _ (List.mem_of_getElem? (i := 9) rfl)) (hw _ (List.mem_of_getElem? (i := 1) rfl)) (by decide) (by decide)) q39a q39c (g := (mkF m 41 #[.val (.int k), .val (.int 1), .val (.ref wp), .val (.ref wt), .unset] [(.ref wp)])) rfl (by rw [hml]; rfl) (Steps.refl _) (argsL := []) (rest := []) (lenOf pd_0 rfl) rfl (by show 2 * 0 + _ ≤ _; exact Nat.le_of_eq rfl) (hb hby at_41) (fun vmx hWx => ⟨rfl, e38, (by decide : 0 + 0 ≤ _), (by decide : 0 + 0 ≤ _)⟩)
    dsimp only [Pt.U, Pt.locs, Pt.cells, Pt.slots] at X39 l39 y39 z39 st39 hQ39
    subst l39 y39 z39
    obtain ⟨rv39, Nq39, Kq39⟩ := hQ39
    subst rv39
    have N39 := Fr.app N0 Nq39
    -- pc 60: OwnerName.other
    obtain ⟨cq40, kq40, q40a, q40b, q40c⟩ := isOf hZ Kq39 p3_E
    obtain ⟨_, _, ⟨T40, L40, k40, n40⟩, -, X40, ⟨Lc40, hQ40, l40, y40, z40⟩, st40⟩ := X39.virtualBack hx (y := (⟨"com/example/ulinzi/ulinzi/model/OwnerName", "other", "()Lcom/example/ulinzi/ulinzi/model/OwnerName;"⟩ : MethodName)) (z := (⟨"com/example/ulinzi/ulinzi/model/OwnerName", "other", "()Lcom/example/ulinzi/ulinzi/model/OwnerName;"⟩ : MethodName)) hown (mvT hZ (hw _ (List.mem_of_getElem? (i := 5) rfl))) (mvT hZ (hw _ (List.mem_of_getElem? (i := 6) rfl))) (notFace_of_selects (args := #[]) (mvT hZ (hw _ (List.mem_of_getElem? (i := 8) rfl)))) (mvT hZ (hw _ (List.mem_of_getElem? (i := 8) rfl))) (mvT hZ (hw _ (List.mem_of_getElem? (i := 7) rfl))) (by decide) (backOf (W := 0) (rm1 l Z av0 hw [] wt wt wp wp h0 n0 (own_le p0_O) p0_O p1_S p2_S (⟨fun _ => rfl, fun h => absurd rfl h⟩ : (wt = wt → wp = wp) ∧ (¬ (wt = wt) → wp = wt))) hZ (hw _ (List.mem_of_getElem? (i := 9) rfl)) (hw _ (List.mem_of_getElem? (i := 1) rfl)) (by decide) (by decide)) q40a q40c (g := (mkF m 60 #[.val (.int k), .val (.int 1), .val (.ref wp), .val (.ref wt), .val (.ref wt)] [(.ref wt)])) rfl (by rw [hml]; rfl) (Steps.refl _) (argsL := []) (rest := []) (lenOf pd_0 rfl) rfl (by show 2 * 0 + _ ≤ _; exact Nat.le_of_eq rfl) (hb hby at_60) (fun vmx hWx => ⟨rfl, Kq39, (by decide : 0 + 0 ≤ _), (by decide : 0 + 0 ≤ _)⟩)
    dsimp only [Pt.U, Pt.locs, Pt.cells, Pt.slots] at X40 l40 y40 z40 st40 hQ40
    subst l40 y40 z40
    obtain ⟨rv40, Nq40, Kq40⟩ := hQ40
    subst rv40
    have N40 := Fr.app N39 Nq40
    obtain ⟨fs, hrL, hrun, hended, hW, hsame⟩ := X40.leave (v := some (.int 1)) (fun h => by rw [Bd.returns] at h; cases h)
    refine ⟨_, _, pre31 _ ?_, hrun, hended, _, _, rfl, ?_, ⟨_, rfl⟩, hW, hsame.mono (by decide) (by decide)⟩
    · show Steps p.tables e below (s₁.setTop (mkF m 3 #[.val (.int k), .unset, .unset, .unset, .unset] [(.int (k &&& (1 : Int32)))])) _
      refine XS.ifNo X0.here hx rfl (hb hby at_3) rfl ((if0 _ _).trans (feq hc32).1) ?_
      refine XS.iconst X0.here hx rfl (hb hby at_6) ?_
      show Steps p.tables e below (s₁.setTop (mkF m 7 #[.val (.int k), .unset, .unset, .unset, .unset] [(.int 1)])) _
      refine XS.goto X0.here hx rfl (pc0 := 7) (pc' := 11) rfl (hb hby at_7) (by decide) (by decide) ?_
      refine XS.istoreN X0.here hx rfl (hb hby at_11) rfl (l' := #[.val (.int k), .val (.int 1), .unset, .unset, .unset]) rfl ?_
      refine XS.iloadN X0.here hx rfl (hb hby at_12) rfl ?_
      show Steps p.tables e below (s₁.setTop (mkF m 13 #[.val (.int k), .val (.int 1), .unset, .unset, .unset] [(.int 1)])) _
      refine XS.ifNo X0.here hx rfl (hb hby at_13) rfl ((if0 _ _).trans (feq (by decide : ¬ ((1 : Int32) = (0 : Int32)))).1) ?_
      show Steps p.tables e below (s₁.setTop (mkF m 16 #[.val (.int k), .val (.int 1), .unset, .unset, .unset] [])) _
      refine st37 _ ?_
      refine XS.goto X37.here hx rfl (pc0 := 19) (pc' := 25) rfl (hb hby at_19) (by decide) (by decide) ?_
      refine XS.astoreN X37.here hx rfl (hb hby at_25) rfl rfl (l' := #[.val (.int k), .val (.int 1), .val (.ref wp), .unset, .unset]) rfl ?_
      refine XS.iloadN X37.here hx rfl (hb hby at_26) rfl ?_
      show Steps p.tables e below (T37.setTop (mkF m 27 #[.val (.int k), .val (.int 1), .val (.ref wp), .unset, .unset] [(.int 1)])) _
      refine XS.ifNo X37.here hx rfl (hb hby at_27) rfl ((if0 _ _).trans (feq (by decide : ¬ ((1 : Int32) = (0 : Int32)))).1) ?_
      show Steps p.tables e below (T37.setTop (mkF m 30 #[.val (.int k), .val (.int 1), .val (.ref wp), .unset, .unset] [])) _
      refine st38 _ ?_
      refine XS.goto X38.here hx rfl (pc0 := 33) (pc' := 39) rfl (hb hby at_33) (by decide) (by decide) ?_
      refine XS.astoreN X38.here hx rfl (hb hby at_39) rfl rfl (l' := #[.val (.int k), .val (.int 1), .val (.ref wp), .val (.ref wt), .unset]) rfl ?_
      show Steps p.tables e below (T38.setTop (mkF m 40 #[.val (.int k), .val (.int 1), .val (.ref wp), .val (.ref wt), .unset] [])) _
      refine XS.aloadN X38.here hx rfl (hb hby at_40) rfl rfl ?_
      show Steps p.tables e below (T38.setTop (mkF m 41 #[.val (.int k), .val (.int 1), .val (.ref wp), .val (.ref wt), .unset] [(.ref wp)])) _
      refine st39.trans ?_
      refine XS.astore X39.here hx rfl (hb hby at_44) rfl rfl (l' := #[.val (.int k), .val (.int 1), .val (.ref wp), .val (.ref wt), .val (.ref wt)]) rfl ?_
      refine XS.aload X39.here hx rfl (hb hby at_46) rfl rfl ?_
      show Steps p.tables e below (T39.setTop (mkF m 48 #[.val (.int k), .val (.int 1), .val (.ref wp), .val (.ref wt), .val (.ref wt)] [(.ref wt)])) _
      refine XS.aloadN X39.here hx rfl (hb hby at_48) rfl rfl ?_
      show Steps p.tables e below (T39.setTop (mkF m 49 #[.val (.int k), .val (.int 1), .val (.ref wp), .val (.ref wt), .val (.ref wt)] [(.ref wt), (.ref wt)])) _
      refine Jvm.RoadKit.acmp (g := (mkF m 49 #[.val (.int k), .val (.int 1), .val (.ref wp), .val (.ref wt), .val (.ref wt)] [(.ref wt), (.ref wt)])) X39 hx rfl rfl rfl (pc0 := 49) (pc' := 52) (same := true) rfl (hb hby at_49) rfl (decide_eq_true rfl) (by decide) (by decide) ?_
      refine XS.aload X39.here hx rfl (hb hby at_52) rfl rfl ?_
      refine XS.aloadN X39.here hx rfl (hb hby at_54) rfl rfl ?_
      show Steps p.tables e below (T39.setTop (mkF m 55 #[.val (.int k), .val (.int 1), .val (.ref wp), .val (.ref wt), .val (.ref wt)] [(.ref wp), (.ref wt)])) _
      refine Jvm.RoadKit.acmp (g := (mkF m 55 #[.val (.int k), .val (.int 1), .val (.ref wp), .val (.ref wt), .val (.ref wt)] [(.ref wp), (.ref wt)])) X39 hx rfl rfl rfl (pc0 := 55) (pc' := 58) (same := false) rfl (hb hby at_55) rfl (decide_eq_false fun q => (fun h => hne h.symm : ¬ (wt = wp)) (Value.ref.inj q)) (by decide) (by decide) ?_
      refine XS.aload X39.here hx rfl (hb hby at_58) rfl rfl ?_
      show Steps p.tables e below (T39.setTop (mkF m 60 #[.val (.int k), .val (.int 1), .val (.ref wp), .val (.ref wt), .val (.ref wt)] [(.ref wt)])) _
      refine st40.trans ?_
      refine XS.aloadN X40.here hx rfl (hb hby at_63) rfl rfl ?_
      show Steps p.tables e below (T40.setTop (mkF m 64 #[.val (.int k), .val (.int 1), .val (.ref wp), .val (.ref wt), .val (.ref wt)] [(.ref wp), (.ref wp)])) _
      refine Jvm.RoadKit.acmp (g := (mkF m 64 #[.val (.int k), .val (.int 1), .val (.ref wp), .val (.ref wt), .val (.ref wt)] [(.ref wp), (.ref wp)])) X40 hx rfl rfl rfl (pc0 := 64) (pc' := 67) (same := true) rfl (hb hby at_64) rfl (decide_eq_true rfl) (by decide) (by decide) ?_
      refine XS.iconst X40.here hx rfl (hb hby at_67) ?_
      refine XS.goto X40.here hx rfl (pc0 := 68) (pc' := 72) rfl (hb hby at_68) (by decide) (by decide) ?_
      show Steps p.tables e below (T40.setTop (mkF m 72 #[.val (.int k), .val (.int 1), .val (.ref wp), .val (.ref wt), .val (.ref wt)] [(.int 1)])) _
      exact retN X40 hx (t := .boolean) Bd.returns (by simp) (hb hby at_72) hrL
    · show Q_rm0 _ _ _ _ _ _ _  T40.heap _
      rw [Kq40]
      exact ⟨rfl, N40, rfl⟩
set_option maxRecDepth 65536 in
set_option maxHeartbeats 40000000 in
theorem comes_1 {Post : Tables → Env → Array Value → State → Outcome → State → Prop} (hpost : ∀ tb e args s v u, (limb_1_1.after args s (.returned v) u = true ∧ limb_1_2.after args s (.returned v) u = true ∧ True) → FrameEnd s (.returned v) u (Jvm.fieldLocs frame_1_writes args s ++ Jvm.arrayLocs frame_1_arrays args s ++ Jvm.staticLocs frame_1_statics s) 0 0 → Post tb e args s (.returned v) u) :
    ArmFor flags0 classFile x code maxLocals ret World_1 tables_1 room_1 Calls_1 rest_1 Pre_1 Post := by
  intro l hfl _ _ p e ha hc hk s m args below hf hA hF happ hP
  obtain ⟨hcalls, hrest, hpre⟩ := hP
  obtain ⟨-, -, -, hnamed, -, -, -, hat⟩ := (Spec.applies_iff hf).mp happ
  obtain ⟨hg, hn⟩ := and_e (Cond.before_iff.mp (show (Jvm.Cond.and given_1 narrow_1).before args s = true from hpre))
  obtain ⟨g1, g2⟩ := and_e hg
  obtain ⟨g3, g4⟩ := and_e hn
  obtain ⟨g5, g6⟩ := and_e g4
  obtain ⟨g7, g8⟩ := and_e g6
  obtain ⟨w0, rfl⟩ : ∃ w0 : Value, args = #[w0] := by
    have hs : args.size = 1 := by simpa [Cond.value, given_1] using g1
    obtain ⟨L⟩ := args
    match L, hs with
    | [w0], _ => exact ⟨w0, rfl⟩
  have hw := fun d (hd : d ∈ tables_1) => atoms_spec (ws := Jvm.Cond.code x code maxLocals ret :: tables_1) hat d (List.mem_cons_of_mem _ hd)
  have hfit : Fit s := fun {y c} hc i hi => by
    obtain ⟨ha, rfl⟩ := Array.getElem?_eq_some_iff.mp hc
    have q := List.all_eq_true.mp ((Array.all_eq_true_iff_forall_mem.mp hF) _ (Array.getElem_mem ha)) i (List.mem_range.mpr hi)
    simpa [Array.getElem?_eq_getElem hi] using q
  obtain ⟨i0, ei0⟩ := is_v g2
  obtain rfl : w0 = (.int i0) := Option.some.inj ei0
  obtain ⟨a_TENANT, ev_a_TENANT⟩ := exa_v g3
  have E_a_TENANT : Exa s s.heap a_TENANT "com/example/ulinzi/ulinzi/model/OwnerName" := Exa.start ev_a_TENANT g3
  have S_a_TENANT : Sta s s.heap "com/example/ulinzi/ulinzi/model/OwnerName" "TENANT" "Lcom/example/ulinzi/ulinzi/model/OwnerName;" (.ref a_TENANT) := Sta.start ev_a_TENANT (Or.inr ⟨(hw _ (List.mem_of_getElem? (i := 1) rfl)), (hw _ (List.mem_of_getElem? (i := 2) rfl))⟩)
  obtain ⟨a_PROJECT, ev_a_PROJECT⟩ := exa_v g5
  have E_a_PROJECT : Exa s s.heap a_PROJECT "com/example/ulinzi/ulinzi/model/OwnerName" := Exa.start ev_a_PROJECT g5
  have S_a_PROJECT : Sta s s.heap "com/example/ulinzi/ulinzi/model/OwnerName" "PROJECT" "Lcom/example/ulinzi/ulinzi/model/OwnerName;" (.ref a_PROJECT) := Sta.start ev_a_PROJECT (Or.inr ⟨(hw _ (List.mem_of_getElem? (i := 1) rfl)), (hw _ (List.mem_of_getElem? (i := 4) rfl))⟩)
  have F_a_PROJECT_ordinal : Fld s s.heap a_PROJECT "java/lang/Enum" "ordinal" "I" (.int (1 : Int32)) := Fld.start ((fld_at ev_a_PROJECT).symm.trans (own_eqi g7))
  have F_a_TENANT_ordinal : Fld s s.heap a_TENANT "java/lang/Enum" "ordinal" "I" (.int (0 : Int32)) := Fld.start ((fld_at ev_a_TENANT).symm.trans (own_eqi g8))
  obtain ⟨n, o, h1, h2, h3, _, L, rfl, ⟨rfl, N, -⟩, hq⟩ := rm0 l s _ hw tables_1 i0 a_TENANT a_PROJECT s.heap s.heap.size (Nat.le_refl _) (Old.start s) S_a_TENANT S_a_PROJECT E_a_TENANT E_a_PROJECT (Fld.ne F_a_PROJECT_ordinal F_a_TENANT_ordinal (by decide)) p e ha hc hk s m _ below hf ((Spec.applies_iff_loose hf).mp happ).1 ⟨rfl, State.Warmed39.refl s, rfl⟩ trivial
  refine ⟨n, _, h1, h2, h3, hpost _ _ _ _ _ _ ⟨Cond.after_iff.mpr rfl, Cond.after_iff.mpr (eq_i res_at (Term.int_eval (1)) rfl), trivial⟩ ⟨hq.1, hq.2.1, (hq.2.2.sift fun y hy => Or.inr (N y hy)).mono (by decide) (by decide)⟩⟩
theorem main_1_1 : Claimed_1_1 := comes_1 fun _ _ _ _ _ _ h hF => ⟨h.1, hF⟩
theorem main_1_2 : Claimed_1_2 := comes_1 fun _ _ _ _ _ _ h hF => ⟨h.2.1, hF⟩
end Jvm.Pilot.@@N@@
namespace Jvm.Pilot.@@N@@
open Jvm Jvm.ClassFile Sem Op Lib Jvm.Free Jvm.Stand Jvm.Pilot.@@N@@.Jvm.D
/-! MADE BY PROGRAM (witnessworld.py) out of the Statement's table words and the real class files: 12 classes; the members and pool entries that the words name. The judged class is class 1, her method 1. -/
namespace start1
open Jvm.ClassFile
def u (s : String) : CpInfo := .utf8 (stringToUtf16 s)
/-- a pool by its gaps: so many unusable entries, then the entry; so many at the end -/
def gap : Nat → List CpInfo → List CpInfo
  | 0, r => r
  | n + 1, r => .unusable :: gap n r
def poolList (es : List (Nat × CpInfo)) (last : Nat) : List CpInfo := es.foldr (fun e r => gap e.1 (e.2 :: r)) (gap last [])
def pool (es : List (Nat × CpInfo)) (last : Nat) : Array CpInfo := ⟨poolList es last⟩
def fileOf (pool : Array CpInfo) (this : Nat) (attrs : Array Attribute := #[]) (ms : Array MethodInfo := #[]) (fl : Nat := 33) (sup : Nat := 0) (ifs : Array Nat := #[]) (fds : Array FieldInfo := #[]) : ClassFile where
  minorVersion := 0
  majorVersion := 65
  constantPool := pool
  accessFlags := fl
  thisClass := this
  superClass := sup
  interfaces := ifs
  fields := fds
  methods := ms
  attributes := attrs
def plain (name : String) (sup : Option ClassId) : Class where
  name := name
  kind := .ordinary
  loader := none
  accessFlags := 33
  super := sup
  interfaces := #[]
  cf := none
  fields := #[]
  methods := #[]
  instanceTypes := #[]
  staticTypes := #[]
  resolved := #[]
  callSites := []
  init := .initialized
  statics := none
  mirror := none

def pool0 : Array CpInfo := pool [(5, u "<init>"), (0, u "()V"), (1, .class_ 10), (1, u "java/lang/Object")] 113

def k0m0 : Method := { name := "<init>", desc := "()V", sig := { parameters := [], returnType := none }, accessFlags := 1, code := none }
/-- java/lang/Object -/
def k0 : Class := { plain "java/lang/Object" none with
  accessFlags := 33
  interfaces := #[]
  cf := some (fileOf pool0 8 #[] #[{ accessFlags := 1, nameIndex := 5, descriptorIndex := 6, attributes := #[] }] 33 0 #[] #[])
  fields := #[]
  methods := #[k0m0]
  instanceTypes := #[]
  staticTypes := #[]
  resolved := Array.replicate 124 none
  statics := none }

def pool1 : Array CpInfo := pool [(2, .class_ 4), (1, u "java/lang/Object"), (0, u "<init>"), (0, u "()V"), (0, .fieldref 8 9), (0, .class_ 10), (0, .nameAndType 11 12), (0, u "com/example/ulinzi/ulinzi/model/OwnerName"), (0, u "PROJECT"), (0, u "Lcom/example/ulinzi/ulinzi/model/OwnerName;"), (0, .fieldref 8 14), (0, .nameAndType 15 12), (0, u "TENANT"), (0, .methodref 8 17), (0, .nameAndType 18 19), (0, u "other"), (0, u "()Lcom/example/ulinzi/ulinzi/model/OwnerName;"), (0, .class_ 21), (0, u "com/example/ulinzi/ulinzi/model/OwnerNameOtherPinLaw"), (2, u "law"), (0, u "(I)Z")] 3

def k1m0 : Method := { name := "<init>", desc := "()V", sig := { parameters := [], returnType := none }, accessFlags := 2, code := none }
def k1c1 : Code := { maxStack := 2, maxLocals := 5, code := code, exceptionTable := #[], attributes := #[] }
def k1m1 : Method := { name := "law", desc := "(I)Z", sig := { parameters := [.int], returnType := some .boolean }, accessFlags := 9, code := some k1c1 }
/-- com/example/ulinzi/ulinzi/model/OwnerNameOtherPinLaw -/
def k1 : Class := { plain "com/example/ulinzi/ulinzi/model/OwnerNameOtherPinLaw" (some 0) with
  accessFlags := 49
  interfaces := #[]
  cf := some (fileOf pool1 20 #[] #[{ accessFlags := 2, nameIndex := 5, descriptorIndex := 6, attributes := #[] }, { accessFlags := 9, nameIndex := 24, descriptorIndex := 25, attributes := #[] }] 49 2 #[] #[])
  fields := #[]
  methods := #[k1m0, k1m1]
  instanceTypes := #[]
  staticTypes := #[]
  resolved := Array.replicate 29 none
  statics := none }

def pool2 : Array CpInfo := pool [(1, .class_ 2), (0, u "java/lang/constant/Constable"), (0, .class_ 4), (0, u "java/lang/Object")] 6

/-- java/lang/constant/Constable -/
def k2 : Class := { plain "java/lang/constant/Constable" (some 0) with
  accessFlags := 1537
  interfaces := #[]
  cf := some (fileOf pool2 1 #[] #[] 1537 3 #[] #[])
  fields := #[]
  methods := #[]
  instanceTypes := #[]
  staticTypes := #[]
  resolved := Array.replicate 11 none
  statics := none }

def pool3 : Array CpInfo := pool [(1, .class_ 2), (0, u "java/lang/Comparable"), (0, .class_ 4), (0, u "java/lang/Object")] 7

/-- java/lang/Comparable -/
def k3 : Class := { plain "java/lang/Comparable" (some 0) with
  accessFlags := 1537
  interfaces := #[]
  cf := some (fileOf pool3 1 #[] #[] 1537 3 #[] #[])
  fields := #[]
  methods := #[]
  instanceTypes := #[]
  staticTypes := #[]
  resolved := Array.replicate 12 none
  statics := none }

def pool4 : Array CpInfo := pool [(1, .class_ 2), (0, u "java/io/Serializable"), (0, .class_ 4), (0, u "java/lang/Object")] 2

/-- java/io/Serializable -/
def k4 : Class := { plain "java/io/Serializable" (some 0) with
  accessFlags := 1537
  interfaces := #[]
  cf := some (fileOf pool4 1 #[] #[] 1537 3 #[] #[])
  fields := #[]
  methods := #[]
  instanceTypes := #[]
  staticTypes := #[]
  resolved := Array.replicate 7 none
  statics := none }

def pool5 : Array CpInfo := pool [(2, .class_ 4), (1, u "java/lang/Enum"), (0, u "name"), (0, u "Ljava/lang/String;"), (2, u "ordinal"), (0, u "I"), (1, .class_ 14), (1, u "java/lang/Object"), (4, u "hash"), (86, .class_ 108), (1, u "java/lang/Enum$EnumDesc"), (2, .class_ 112), (0, u "java/lang/constant/Constable"), (0, .class_ 114), (0, u "java/lang/Comparable"), (0, .class_ 116), (0, u "java/io/Serializable")] 87

/-- java/lang/Enum -/
def k5 : Class := { plain "java/lang/Enum" (some 0) with
  accessFlags := 1057
  interfaces := #[2, 3, 4]
  cf := some (fileOf pool5 2 #[.nestMembers #[106]] #[] 1057 12 #[111, 113, 115] #[{ accessFlags := 18, nameIndex := 5, descriptorIndex := 6, attributes := #[] }, { accessFlags := 18, nameIndex := 9, descriptorIndex := 10, attributes := #[] }, { accessFlags := 2, nameIndex := 19, descriptorIndex := 10, attributes := #[] }])
  fields := #[{ name := "name", type := (.object "java/lang/String"), accessFlags := 18, slot := 0, constantValue := 0 }, { name := "ordinal", type := .int, accessFlags := 18, slot := 1, constantValue := 0 }, { name := "hash", type := .int, accessFlags := 2, slot := 2, constantValue := 0 }]
  methods := #[]
  instanceTypes := #[(.object "java/lang/String"), .int, .int]
  staticTypes := #[]
  resolved := Array.replicate 204 none
  statics := none }

def pool6 : Array CpInfo := pool [(1, .class_ 2), (0, u "com/example/ulinzi/ulinzi/model/OwnerName"), (0, .fieldref 1 4), (0, .nameAndType 5 6), (0, u "TENANT"), (0, u "Lcom/example/ulinzi/ulinzi/model/OwnerName;"), (0, .fieldref 1 8), (0, .nameAndType 9 6), (0, u "PROJECT"), (2, u "$VALUES"), (0, u "[Lcom/example/ulinzi/ulinzi/model/OwnerName;"), (6, .class_ 22), (1, u "java/lang/Enum"), (8, u "text"), (0, u "Ljava/lang/String;"), (21, u "other"), (0, u "()Lcom/example/ulinzi/ulinzi/model/OwnerName;")] 6

def k6c0 : Code := { maxStack := 2, maxLocals := 1, code := prog_22_method_5_code, exceptionTable := #[], attributes := #[] }
def k6m0 : Method := { name := "other", desc := "()Lcom/example/ulinzi/ulinzi/model/OwnerName;", sig := { parameters := [], returnType := some (.object "com/example/ulinzi/ulinzi/model/OwnerName") }, accessFlags := 1, code := some k6c0 }
/-- com/example/ulinzi/ulinzi/model/OwnerName -/
def k6 : Class := { plain "com/example/ulinzi/ulinzi/model/OwnerName" (some 5) with
  accessFlags := 16433
  interfaces := #[]
  cf := some (fileOf pool6 1 #[] #[{ accessFlags := 1, nameIndex := 54, descriptorIndex := 55, attributes := #[] }] 16433 20 #[] #[{ accessFlags := 16409, nameIndex := 5, descriptorIndex := 6, attributes := #[] }, { accessFlags := 16409, nameIndex := 9, descriptorIndex := 6, attributes := #[] }, { accessFlags := 18, nameIndex := 31, descriptorIndex := 32, attributes := #[] }, { accessFlags := 4122, nameIndex := 12, descriptorIndex := 13, attributes := #[] }])
  fields := #[{ name := "TENANT", type := (.object "com/example/ulinzi/ulinzi/model/OwnerName"), accessFlags := 16409, slot := 0, constantValue := 0 }, { name := "PROJECT", type := (.object "com/example/ulinzi/ulinzi/model/OwnerName"), accessFlags := 16409, slot := 1, constantValue := 0 }, { name := "text", type := (.object "java/lang/String"), accessFlags := 18, slot := 3, constantValue := 0 }, { name := "$VALUES", type := (.array (.object "com/example/ulinzi/ulinzi/model/OwnerName")), accessFlags := 4122, slot := 2, constantValue := 0 }]
  methods := #[k6m0]
  instanceTypes := #[(.object "java/lang/String"), .int, .int, (.object "java/lang/String")]
  staticTypes := #[(.object "com/example/ulinzi/ulinzi/model/OwnerName"), (.object "com/example/ulinzi/ulinzi/model/OwnerName"), (.array (.object "com/example/ulinzi/ulinzi/model/OwnerName"))]
  resolved := Array.replicate 62 none
  statics := some 0 }

def pool7 : Array CpInfo := pool [(1, u "java/lang/Cloneable"), (0, .class_ 1), (0, u "java/lang/Object"), (0, .class_ 3)] 3

/-- java/lang/Cloneable -/
def k7 : Class := { plain "java/lang/Cloneable" (some 0) with
  accessFlags := 1537
  interfaces := #[]
  cf := some (fileOf pool7 2 #[] #[] 1537 4 #[] #[])
  fields := #[]
  methods := #[]
  instanceTypes := #[]
  staticTypes := #[]
  resolved := Array.replicate 8 none
  statics := none }

/-- the primitive byte -/
def k8 : Class := { plain "byte" none with kind := .primitive 'B', accessFlags := 0x411 }
/-- [B -/
def k9 : Class := { plain "[B" (some 0) with kind := .array 8 .byte, interfaces := #[7, 4], accessFlags := 1041 }

/-- the primitive int -/
def k10 : Class := { plain "int" none with kind := .primitive 'I', accessFlags := 0x411 }
/-- [I -/
def k11 : Class := { plain "[I" (some 0) with kind := .array 10 .int, interfaces := #[7, 4], accessFlags := 1041 }

def heap : Heap := #[{ cls := 6, slots := #[.ref 1, .ref 2, .null], vm := .statics 6 },
  { cls := 6, slots := #[.null, .int 0, .int 0, .null], vm := .none },
  { cls := 6, slots := #[.null, .int 1, .int 0, .null], vm := .none }]
def classes : Array Class := #[k0, k1, k2, k3, k4, k5, k6, k7, k8, k9, k10, k11]
def interned : List (Array UInt16 × Addr) := []
def slotsUsed : Nat := 11
def theMethod : MethodId := ⟨1, 1⟩
def args0 : Array Value := #[.int 5]
def aboutOver (below : List Frame) : State where
  vm := { classes := classes, interned := interned.toArray }
  heap := heap
  slotsUsed := slotsUsed
  threads := #[{ frames := .invoking theMethod args0 :: below }]
def below0 : List Frame := [.native { method := ⟨0, 0⟩, args := #[] }]
def about1 : State := aboutOver below0
def p0 : Program := .bare "" "" ""
def e0 : Env := launch0.env 0 0 0
theorem w_frames : about1.frames = Frame.invoking theMethod args0 :: below0 := rfl
set_option maxRecDepth 65536 in
theorem w_args : argsFit about1.vm theMethod args0 = true := by decide +kernel
set_option maxRecDepth 65536 in
theorem w_heap : heapFits about1 = true := by decide +kernel
set_option maxRecDepth 65536 in
theorem w_runnable : about1.curStatus? = some .runnable := by decide +kernel
set_option maxRecDepth 65536 in
theorem w_alone : about1.alone = true := by decide +kernel
set_option maxRecDepth 65536 in
theorem w_named : about1.methodNamed? x = some theMethod := by decide +kernel
set_option maxRecDepth 65536 in
theorem w_hears : about1.hears theMethod below0 = true := by decide +kernel
set_option maxRecDepth 65536 in
theorem w_ripe : about1.ripe theMethod args0 below0 = true := by decide +kernel
theorem w_running : about1.status = .running := rfl
set_option maxRecDepth 65536 in
theorem w_room : about1.hasRoom e0.platform room_1 = true :=
  launch0.hasRoom_least _ room_1 (by decide +kernel) (by decide +kernel) (by decide +kernel) (by decide +kernel) (by decide +kernel) (by decide +kernel)
theorem allAtoms_all (ts : List Jvm.Cond) (a : Array Jvm.Value) (st : Jvm.State) : (allAtoms ts).before a st = ts.all (fun c => c.before a st) := by
  induction ts with
  | nil => rfl
  | cons c t ih =>
    show (Jvm.Cond.and c (allAtoms t)).before a st = _
    rw [Jvm.Cond.before_and, ih, List.all_cons]
def words1 : List Jvm.Cond := Jvm.Cond.code x code maxLocals ret :: tables_1
/-- a 'code' word, met by the world's own term for the bytes: nothing is compared byte by byte -/
theorem code_word {y : MethodName} {bytes : ByteArray} {mx : Nat} {rt : Option FieldType} {a : Array Value} {s : State} {m : MethodId} {meth : Method} {c : Code} (h1 : s.methodNamed? y = some m) (h2 : s.vm.method? m = some meth) (h3 : meth.code = some c) (h4 : c.code = bytes)
    (h5 : (c.maxLocals == mx && c.exceptionTable.isEmpty && decide (c.maxStack ≤ mostOperands) && decide (meth.sig.returnType = rt) && !meth.locks && decide (parseMethodDescriptor y.desc = some meth.sig)) = true) : (Jvm.Cond.code y bytes mx rt).before a s = true := by
  simp only [Bool.and_eq_true, beq_iff_eq, Bool.not_eq_true', decide_eq_true_eq] at h5
  obtain ⟨⟨⟨⟨⟨g1, g2⟩, g3⟩, g4⟩, g5⟩, g6⟩ := h5
  simp [Cond.before, Cond.holds, Cond.value, h1, h2, h3, h4, g1, g2, g3, g4, g5, g6]
def isCode : Jvm.Cond → Bool
  | .code _ _ _ _ => true
  | _ => false
theorem all_split {L : List Jvm.Cond} {P : Jvm.Cond → Bool} (h1 : L.all (fun c => isCode c || P c) = true) (h2 : ∀ c ∈ L.filter isCode, P c = true) : L.all P = true := by
  refine List.all_eq_true.mpr fun c hc => ?_
  have h := List.all_eq_true.mp h1 c hc
  rcases Bool.eq_false_or_eq_true (isCode c) with hi | hi
  · exact h2 c (List.mem_filter.mpr ⟨hc, hi⟩)
  · simpa [hi] using h
set_option maxRecDepth 65536 in
theorem w_c0 : (Jvm.Cond.code x code maxLocals ret).before args0 about1 = true := code_word (m := ⟨1, 1⟩) (meth := k1m1) (c := k1c1) (by decide +kernel) rfl rfl rfl (by decide +kernel)
set_option maxRecDepth 65536 in
theorem w_c1 : (Jvm.Cond.code ({ cls := "com/example/ulinzi/ulinzi/model/OwnerName", name := "other", desc := "()Lcom/example/ulinzi/ulinzi/model/OwnerName;" } : Jvm.MethodName) prog_22_method_5_code (1 : Nat) (Option.some (Jvm.ClassFile.FieldType.object "com/example/ulinzi/ulinzi/model/OwnerName"))).before args0 about1 = true := code_word (m := ⟨6, 0⟩) (meth := k6m0) (c := k6c0) (by decide +kernel) rfl rfl rfl (by decide +kernel)
def codes1 : List Jvm.Cond := [Jvm.Cond.code x code maxLocals ret, Jvm.Cond.code ({ cls := "com/example/ulinzi/ulinzi/model/OwnerName", name := "other", desc := "()Lcom/example/ulinzi/ulinzi/model/OwnerName;" } : Jvm.MethodName) prog_22_method_5_code (1 : Nat) (Option.some (Jvm.ClassFile.FieldType.object "com/example/ulinzi/ulinzi/model/OwnerName"))]
set_option maxRecDepth 65536 in
theorem codes_eq : words1.filter isCode = codes1 := rfl
theorem w_codes : ∀ c ∈ words1.filter isCode, c.before args0 about1 = true := by
  rw [codes_eq]
  intro c hc
  simp only [codes1, List.mem_cons, List.not_mem_nil, or_false] at hc
  rcases hc with rfl | rfl
  · exact w_c0
  · exact w_c1
set_option maxRecDepth 65536 in
theorem w_t1 : words1.all (fun c => isCode c || c.before args0 about1) = true := by decide +kernel
theorem w_tables : (allAtoms (Jvm.Cond.code x code maxLocals ret :: tables_1)).before args0 about1 = true := by
  rw [allAtoms_all]
  show words1.all (fun c => c.before args0 about1) = true
  refine all_split ?_ w_codes
  rw [w_t1]
set_option maxRecDepth 65536 in
theorem w_case : (Jvm.Cond.and given_1 narrow_1).before args0 about1 = true := by decide +kernel
theorem w_applies : (headSpec (Jvm.Cond.code x code maxLocals ret :: tables_1) room_1).applies x e0.platform about1 = true :=
  (Spec.applies_iff w_frames).mpr ⟨w_running, w_runnable, w_alone, w_named, w_hears, w_ripe, w_room, w_tables⟩
theorem atStart : AtStart classFile x code maxLocals ret World_1 tables_1 room_1 Calls_1 rest_1 Pre_1 launch0 p0 e0 about1 theMethod args0 below0 :=
  ⟨lists_1, trivial, launch0.admits_env _ _ _, launch0.least_env, fairChoices_fair.cas, fairChoices_fair.clock, w_frames, w_args, w_heap, w_applies, trivial, trivial, w_case⟩
end start1
theorem witness_1 : WitnessClaimed_1 := ⟨start1.p0, start1.e0, start1.about1, start1.theMethod, start1.args0, start1.below0, start1.atStart⟩
end Jvm.Pilot.@@N@@
