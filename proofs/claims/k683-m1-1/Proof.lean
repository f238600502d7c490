import JvmDerived
import JvmDerived.Pilot.@@N@@Statement
import JvmDerived.Pilot.@@N@@Code
set_option linter.unusedVariables false
set_option linter.unusedSimpArgs false
namespace Jvm.RoadKit
open Sem ClassFile Op Lib Jvm.Stand Jvm.Free Jvm.LawKit
section New
variable {p : Program} {l : Launch} {e : Env} {R : Room} {s : State} {m : MethodId} {args : Array Value} {below : List Frame} {meth : Method} {c : Code} {T : State} {locs : List Loc} {cells slots : Nat}
theorem retI (X : Stand p l e R s m args below meth c T locs cells slots) (hx : p.tables.exec = Jvm.exec) {pc : Nat} {Ls : Array Slot} {z : Int32} {rest : List Value} (hret : meth.sig.returnType = some .int) (hd : decode c.code pc = .ok (.ireturn, 1)) {fs : List Frame}
    (hl : ∀ (f : JFrame) (acts : List Action), f.method = m → f.locked = none → f.entered = [] → (doReturn e (T.setTop f) acts (some (.int z))).1 = T.setFrames fs) : Steps p.tables e below (T.setTop (mkF m pc Ls (.int z :: rest))) (T.setFrames fs) := by
  have hm' : T.vm.method? m = some meth := X.method'
  have hn : narrow .int (.int z) = .int z := rfl
  show Steps p.tables e below (T.setTop { method := m, pc := pc, locals := Ls, stack := _ :: rest, locked := none }) _
  jvm_step X.here [X.here.top, hx, hd, hm', hret, hn]
  first | (intro acts; rw [hl _ acts rfl rfl rfl]) | rw [hl _ _ rfl rfl rfl]
  exact Steps.refl _
end New
end Jvm.RoadKit
namespace Jvm.Pilot.@@N@@
open Jvm Jvm.ClassFile Sem Op Lib Jvm.Free Jvm.Stand Jvm.LawKit Jvm.RoadKit Bundle Jvm.Pilot.@@N@@.Jvm.D
theorem own_refc {v : Value} (h : v.isRef = true) : v = .null ∨ ∃ a, v = .ref a := by cases v <;> simp_all [Value.isRef]
theorem own_narR {t : FieldType} {v : Value} (h : v.isRef = true) : narrow t v = v := by rcases own_refc h with rfl | ⟨_, rfl⟩ <;> cases t <;> rfl
theorem own_le {Z : State} {n0 : Nat} {h : Heap} (O : Old Z n0 h) : n0 ≤ h.size := O.1 ▸ O.2.1
theorem own_fitR {t : FieldType} {v : Value} (ht : refKind t = true) (h : v.isRef = true) : fits t v = true := by rcases own_refc h with rfl | ⟨_, rfl⟩ <;> cases t <;> simp_all [refKind, fits]
theorem own_root {Z : State} {a0 : Array Value} {O K : String} {n : Nat} (w : (Jvm.Cond.noSuperclass O).before a0 Z = true) (wk : (Jvm.Cond.instantiable K n).before a0 Z = true) (hn : O ≠ K) : NS Z O K := by
  obtain ⟨c, k, h1, h2, h3, -, -⟩ := Cond.noSuperclass_spec w
  obtain ⟨t, k2, g1, -⟩ := Cond.instantiable_spec wk
  have ne := ids_ne h1 g1 hn
  refine ⟨c, t, h1, g1, fun fuel => ?_⟩
  cases fuel with
  | zero => rfl
  | succ f => simp [Vm.isSubclassAux, ne, h2, h3]
theorem own_no {Z : State} {a0 : Array Value} {C S K : String} {n : Nat} (w : (Jvm.Cond.superclass C S).before a0 Z = true) (wk : (Jvm.Cond.instantiable K n).before a0 Z = true) (ns : NS Z C K) (hn : C ≠ K) : ∃ c t, Z.vm.findClass C = some c ∧ Z.vm.findClass K = some t ∧ Z.vm.assignable c t = false := by
  obtain ⟨c, t, h0, g0, n3⟩ := ns
  obtain ⟨p, k, kp, h1, h2, h3, h4, h5, -, h7⟩ := Cond.superclass_spec h0 w
  obtain ⟨q, k', g1, g2, g3, g4, -⟩ := Cond.instantiable_spec wk
  cases g0.symm.trans g1
  have ne := ids_ne h0 g0 hn
  have g5 : k'.isInterface = false := by cases hi : k'.isInterface <;> simp_all
  refine ⟨c, t, h0, g0, ?_⟩
  show Z.vm.assignableAux (255 + 1) c t = false
  simp [Vm.assignableAux, ne, h2, g2, h5, g3, g5, Vm.isSubclass, n3]
theorem own_b8 (x : Int32) : x.toInt8.toInt32.toInt8.toInt32 = x.toInt8.toInt32 := by simp
theorem own_ti {k q : Int32} {n : Int} (e : q.toInt = n) (h : n = k.toInt) : k = q := Int32.toInt_inj.mp (h.symm.trans e.symm)
theorem ne_arv {Z : State} {h : Heap} {a b : Addr} {C : String} {a0 : Array Value} {k : Nat} {kc : ClassId} {ty : FieldType} {z : Int32} {vs : List Value} {dv : Value} (F : Exa Z h a C) (wi : (Jvm.Cond.instantiable C k).before a0 Z = true) (G : Arv Z h b kc ty z vs dv) : a ≠ b := by obtain ⟨c, A, -⟩ := G; exact ne_arr F wi A
theorem own_eqi {t : Term} {n : Int32} {args : Array Value} {s : State} (h : (Jvm.Cond.eq t (.int n)).value args s none s [] = some true) : t.eval args s none [] s = some (.int n) := by
  simp only [Jvm.Cond.value] at h
  have hn : (Term.int n).eval args s none [] s = some (.int n) := rfl
  rw [hn] at h
  cases hv : t.eval args s none [] s with
  | none => simp [hv] at h
  | some x => cases x <;> simp [hv] at h ⊢; exact h
theorem d1_0 : decode method_2_code 0 = .ok (.iload_n 0, 1) := by decide +kernel
theorem d1_1 : decode method_2_code 1 = .ok (.ifCond .ne 7, 3) := by decide +kernel
theorem d1_4 : decode method_2_code 4 = .ok (.getstatic 7, 3) := by decide +kernel
theorem d1_7 : decode method_2_code 7 = .ok (.areturn, 1) := by decide +kernel
theorem d1_8 : decode method_2_code 8 = .ok (.iload_n 0, 1) := by decide +kernel
theorem d1_9 : decode method_2_code 9 = .ok (.iconst 1, 1) := by decide +kernel
theorem d1_10 : decode method_2_code 10 = .ok (.if_icmp .ne 7, 3) := by decide +kernel
theorem d1_13 : decode method_2_code 13 = .ok (.getstatic 13, 3) := by decide +kernel
theorem d1_16 : decode method_2_code 16 = .ok (.areturn, 1) := by decide +kernel
theorem d1_17 : decode method_2_code 17 = .ok (.iload_n 0, 1) := by decide +kernel
theorem d1_18 : decode method_2_code 18 = .ok (.iconst 2, 1) := by decide +kernel
theorem d1_19 : decode method_2_code 19 = .ok (.if_icmp .ne 7, 3) := by decide +kernel
theorem d1_22 : decode method_2_code 22 = .ok (.getstatic 16, 3) := by decide +kernel
theorem d1_25 : decode method_2_code 25 = .ok (.areturn, 1) := by decide +kernel
theorem d1_26 : decode method_2_code 26 = .ok (.iload_n 0, 1) := by decide +kernel
theorem d1_27 : decode method_2_code 27 = .ok (.iconst 3, 1) := by decide +kernel
theorem d1_28 : decode method_2_code 28 = .ok (.if_icmp .ne 7, 3) := by decide +kernel
theorem d1_31 : decode method_2_code 31 = .ok (.getstatic 19, 3) := by decide +kernel
theorem d1_34 : decode method_2_code 34 = .ok (.areturn, 1) := by decide +kernel
theorem d1_35 : decode method_2_code 35 = .ok (.iload_n 0, 1) := by decide +kernel
theorem d1_36 : decode method_2_code 36 = .ok (.iconst 4, 1) := by decide +kernel
theorem d1_37 : decode method_2_code 37 = .ok (.if_icmp .ne 7, 3) := by decide +kernel
theorem d1_40 : decode method_2_code 40 = .ok (.getstatic 22, 3) := by decide +kernel
theorem d1_43 : decode method_2_code 43 = .ok (.areturn, 1) := by decide +kernel
theorem d1_44 : decode method_2_code 44 = .ok (.iload_n 0, 1) := by decide +kernel
theorem d1_45 : decode method_2_code 45 = .ok (.iconst 5, 1) := by decide +kernel
theorem d1_46 : decode method_2_code 46 = .ok (.if_icmp .ne 7, 3) := by decide +kernel
theorem d1_49 : decode method_2_code 49 = .ok (.getstatic 25, 3) := by decide +kernel
theorem d1_52 : decode method_2_code 52 = .ok (.areturn, 1) := by decide +kernel
theorem d1_53 : decode method_2_code 53 = .ok (.iload_n 0, 1) := by decide +kernel
theorem d1_54 : decode method_2_code 54 = .ok (.bipush 6, 2) := by decide +kernel
theorem d1_56 : decode method_2_code 56 = .ok (.if_icmp .ne 7, 3) := by decide +kernel
theorem d1_59 : decode method_2_code 59 = .ok (.getstatic 28, 3) := by decide +kernel
theorem d1_62 : decode method_2_code 62 = .ok (.areturn, 1) := by decide +kernel
theorem d1_63 : decode method_2_code 63 = .ok (.iload_n 0, 1) := by decide +kernel
theorem d1_64 : decode method_2_code 64 = .ok (.bipush 7, 2) := by decide +kernel
theorem d1_66 : decode method_2_code 66 = .ok (.if_icmp .ne 7, 3) := by decide +kernel
theorem d1_69 : decode method_2_code 69 = .ok (.getstatic 31, 3) := by decide +kernel
theorem d1_72 : decode method_2_code 72 = .ok (.areturn, 1) := by decide +kernel
theorem d1_73 : decode method_2_code 73 = .ok (.iload_n 0, 1) := by decide +kernel
theorem d1_74 : decode method_2_code 74 = .ok (.bipush 8, 2) := by decide +kernel
theorem d1_76 : decode method_2_code 76 = .ok (.if_icmp .ne 7, 3) := by decide +kernel
theorem d1_79 : decode method_2_code 79 = .ok (.getstatic 34, 3) := by decide +kernel
theorem d1_82 : decode method_2_code 82 = .ok (.areturn, 1) := by decide +kernel
theorem d1_83 : decode method_2_code 83 = .ok (.iload_n 0, 1) := by decide +kernel
theorem d1_84 : decode method_2_code 84 = .ok (.bipush 9, 2) := by decide +kernel
theorem d1_86 : decode method_2_code 86 = .ok (.if_icmp .ne 7, 3) := by decide +kernel
theorem d1_89 : decode method_2_code 89 = .ok (.getstatic 37, 3) := by decide +kernel
theorem d1_92 : decode method_2_code 92 = .ok (.areturn, 1) := by decide +kernel
theorem d1_93 : decode method_2_code 93 = .ok (.getstatic 40, 3) := by decide +kernel
theorem d1_96 : decode method_2_code 96 = .ok (.areturn, 1) := by decide +kernel
theorem pn_com_example_ledgerline_ledgerline_SettlementFieldNumericPinLaw : plainName "com/example/ledgerline/ledgerline/SettlementFieldNumericPinLaw" = true := by first | (simp [plainName, overriddenIn]; done) | decide +kernel
theorem ef_rm1 (m : MethodId) (i0 : Int32) : entryFrame m #[(.int i0)] 1 = mkF m 0 #[.val (.int i0)] [] := by first | (simp [entryFrame, mkF, argsToLocals, Value.category]; done) | rfl
def Q_rm1 (Z : State) (i0 : Int32) (w0 : Addr) (w1 : Addr) (w2 : Addr) (w3 : Addr) (w4 : Addr) (w5 : Addr) (w6 : Addr) (w7 : Addr) (w8 : Addr) (w9 : Addr) (w10 : Addr) (r : Addr) (h0 : Heap) (n0 : Nat) (v : Option Value) (h : Heap) (L : List Loc) : Prop := v = some (.ref r) ∧ Fr n0 L ∧ h = h0
set_option maxRecDepth 65536 in
set_option maxHeartbeats 40000000 in
theorem rm1 (l : Launch) (Z : State) (av0 : Array Value) (hw : ∀ d ∈ tables_1, d.before av0 Z = true) (ws : List Jvm.Cond) (i0 : Int32) (w0 : Addr) (w1 : Addr) (w2 : Addr) (w3 : Addr) (w4 : Addr) (w5 : Addr) (w6 : Addr) (w7 : Addr) (w8 : Addr) (w9 : Addr) (w10 : Addr) (r : Addr) (h0 : Heap) (n0 : Nat) (Z0 : n0 ≤ h0.size) (p0_O : Old Z n0 h0) (p1_S : Sta Z Z.heap "com/example/ledgerline/ledgerline/SettlementField" "PTS" "Lcom/example/ledgerline/ledgerline/SettlementField;" (.ref w0)) (p2_S : Sta Z Z.heap "com/example/ledgerline/ledgerline/SettlementField" "PROCESSING_ENTITY" "Lcom/example/ledgerline/ledgerline/SettlementField;" (.ref w1)) (p3_S : Sta Z Z.heap "com/example/ledgerline/ledgerline/SettlementField" "SETTLEMENT_ID" "Lcom/example/ledgerline/ledgerline/SettlementField;" (.ref w2)) (p4_S : Sta Z Z.heap "com/example/ledgerline/ledgerline/SettlementField" "SETTLEMENT_VERSION" "Lcom/example/ledgerline/ledgerline/SettlementField;" (.ref w3)) (p5_S : Sta Z Z.heap "com/example/ledgerline/ledgerline/SettlementField" "COUNTERPARTY_ID" "Lcom/example/ledgerline/ledgerline/SettlementField;" (.ref w4)) (p6_S : Sta Z Z.heap "com/example/ledgerline/ledgerline/SettlementField" "VALUE_DATE" "Lcom/example/ledgerline/ledgerline/SettlementField;" (.ref w5)) (p7_S : Sta Z Z.heap "com/example/ledgerline/ledgerline/SettlementField" "CURRENCY" "Lcom/example/ledgerline/ledgerline/SettlementField;" (.ref w6)) (p8_S : Sta Z Z.heap "com/example/ledgerline/ledgerline/SettlementField" "AMOUNT" "Lcom/example/ledgerline/ledgerline/SettlementField;" (.ref w7)) (p9_S : Sta Z Z.heap "com/example/ledgerline/ledgerline/SettlementField" "DIRECTION" "Lcom/example/ledgerline/ledgerline/SettlementField;" (.ref w8)) (p10_S : Sta Z Z.heap "com/example/ledgerline/ledgerline/SettlementField" "GROSS_NET" "Lcom/example/ledgerline/ledgerline/SettlementField;" (.ref w9)) (p11_S : Sta Z Z.heap "com/example/ledgerline/ledgerline/SettlementField" "BUSINESS_STATUS" "Lcom/example/ledgerline/ledgerline/SettlementField;" (.ref w10)) (hr : (i0 = (0 : Int32) → r = w0) ∧ (i0 = (1 : Int32) → r = w1) ∧ (i0 = (2 : Int32) → r = w2) ∧ (i0 = (3 : Int32) → r = w3) ∧ (i0 = (4 : Int32) → r = w4) ∧ (i0 = (5 : Int32) → r = w5) ∧ (i0 = (6 : Int32) → r = w6) ∧ (i0 = (7 : Int32) → r = w7) ∧ (i0 = (8 : Int32) → r = w8) ∧ (i0 = (9 : Int32) → r = w9) ∧ (¬ (i0 = (0 : Int32)) → ¬ (i0 = (1 : Int32)) → ¬ (i0 = (2 : Int32)) → ¬ (i0 = (3 : Int32)) → ¬ (i0 = (4 : Int32)) → ¬ (i0 = (5 : Int32)) → ¬ (i0 = (6 : Int32)) → ¬ (i0 = (7 : Int32)) → ¬ (i0 = (8 : Int32)) → ¬ (i0 = (9 : Int32)) → r = w10)) :
    MetFree l (⟨"com/example/ledgerline/ledgerline/SettlementFieldNumericPinLaw", "pick", "(I)Lcom/example/ledgerline/ledgerline/SettlementField;"⟩ : MethodName) (head1 (Jvm.Cond.code (⟨"com/example/ledgerline/ledgerline/SettlementFieldNumericPinLaw", "pick", "(I)Lcom/example/ledgerline/ledgerline/SettlementField;"⟩ : MethodName) method_2_code 1 (some (.object "com/example/ledgerline/ledgerline/SettlementField")) :: ws) ({ frames := 0, cells := 0, slots := 0, locals := 0 } : Room)) (fun a U => a = #[(.int i0)] ∧ Z.Warmed39 U.vm ∧ U.heap = h0) (fun _ _ _ _ _ => True) (fun _ U o U' => ∃ v L, o = .returned v ∧ Q_rm1 Z i0 w0 w1 w2 w3 w4 w5 w6 w7 w8 w9 w10 r h0 n0 v U'.heap L ∧ FrameEnd U o U' L ({ frames := 0, cells := 0, slots := 0, locals := 0 } : Room).cells ({ frames := 0, cells := 0, slots := 0, locals := 0 } : Room).slots) := by
  refine MetFree.of_bodySF (plainFor_of_name pn_com_example_ledgerline_ledgerline_SettlementFieldNumericPinLaw) hisR ?_
  intro p e s m args below meth c s₁ Bd hml0 hP hK
  obtain ⟨rfl, hZ, hh⟩ := hP
  have hx := Bd.exec
  have hby := Bd.bytes
  have hml : c.maxLocals = 1 := hml0
  have hown : s.vm.findClass "com/example/ledgerline/ledgerline/SettlementFieldNumericPinLaw" = some m.cls := findClass_of_methodNamed Bd.named
  have hnm := (name_of_methodNamed Bd.named Bd.method).1
  have X0 : Stand p l e ({ frames := 0, cells := 0, slots := 0, locals := 0 } : Room) s m #[(.int i0)] below meth c s₁ [] 0 0 := Stand.of_body Bd
  have e0 : s₁.heap = h0 := by rw [← hh, Bd.state]; rfl
  have N0 := Fr.nil n0
  have pre0 : ∀ tz_, Steps p.tables e below (s₁.setTop (mkF m 0 #[.val (.int i0)] [])) tz_ → Steps p.tables e below (s₁.setTop (entryFrame m #[(.int i0)] 1)) tz_ := fun tz_ kz_ => castTop (ef_rm1 m i0) kz_
  have pre31 : ∀ tz_, Steps p.tables e below (s₁.setTop (mkF m 1 #[.val (.int i0)] [(.int i0)])) tz_ → Steps p.tables e below (s₁.setTop (entryFrame m #[(.int i0)] 1)) tz_ := fun tz_ kk => pre0 tz_ (by
    show Steps p.tables e below (s₁.setTop (mkF m 0 #[.val (.int i0)] [])) _
    refine XS.iloadN X0.here hx rfl (hb hby d1_0) rfl ?_
    exact kk)
  by_cases hc32 : i0 = (0 : Int32)
  · skip
    obtain ⟨T33, X33, e33, st33⟩ := getS2 X0 hx hZ hown (host := "") (Or.inl (hw _ (List.mem_of_getElem? (i := 5) rfl))) Via.refl e0 (p1_S.ext p0_O.2) (g := (mkF m 4 #[.val (.int i0)] [])) rfl (hb hby d1_4)
    obtain ⟨fs, hrL, hrun, hended, hW, hsame⟩ := X33.leave (v := some (.ref w0)) (fun h => by rw [Bd.returns] at h; cases h)
    refine ⟨_, _, pre31 _ ?_, hrun, hended, _, _, rfl, ?_, ⟨_, rfl⟩, hW, hsame.mono (by decide) (by decide)⟩
    · show Steps p.tables e below (s₁.setTop (mkF m 1 #[.val (.int i0)] [(.int i0)])) _
      refine XS.ifNo X0.here hx rfl (hb hby d1_1) rfl ((if0 _ _).trans (teq hc32).2) ?_
      show Steps p.tables e below (s₁.setTop (mkF m 4 #[.val (.int i0)] [])) _
      refine st33 _ ?_
      show Steps p.tables e below (T33.setTop (mkF m 7 #[.val (.int i0)] [(.ref w0)])) _
      exact retOut X33 hx Bd.returns rfl (Or.inr (Or.inr (Or.inr (Or.inr ⟨rfl, rfl, rfl⟩)))) (hb hby d1_7) hrL
    · show Q_rm1 _ _ _ _ _ _ _ _ _ _ _ _ _ _ _ _ _  T33.heap _
      rw [e33]
      exact ⟨congrArg (fun z => some (Value.ref z)) (hr.1 hc32).symm, N0, rfl⟩
  · skip
    have pre34 : ∀ tz_, Steps p.tables e below (s₁.setTop (mkF m 10 #[.val (.int i0)] [(.int 1), (.int i0)])) tz_ → Steps p.tables e below (s₁.setTop (entryFrame m #[(.int i0)] 1)) tz_ := fun tz_ kk => pre31 tz_ (by
      show Steps p.tables e below (s₁.setTop (mkF m 1 #[.val (.int i0)] [(.int i0)])) _
      refine XS.ifYes X0.here hx rfl (pc0 := 1) (pc' := 8) rfl (hb hby d1_1) rfl ((if0 _ _).trans (feq hc32).2) (by decide) (by decide) ?_
      refine XS.iloadN X0.here hx rfl (hb hby d1_8) rfl ?_
      refine XS.iconst X0.here hx rfl (hb hby d1_9) ?_
      exact kk)
    by_cases hc35 : i0 = (1 : Int32)
    · skip
      obtain ⟨T36, X36, e36, st36⟩ := getS2 X0 hx hZ hown (host := "") (Or.inl (hw _ (List.mem_of_getElem? (i := 25) rfl))) Via.refl e0 (p2_S.ext p0_O.2) (g := (mkF m 13 #[.val (.int i0)] [])) rfl (hb hby d1_13)
      obtain ⟨fs, hrL, hrun, hended, hW, hsame⟩ := X36.leave (v := some (.ref w1)) (fun h => by rw [Bd.returns] at h; cases h)
      refine ⟨_, _, pre34 _ ?_, hrun, hended, _, _, rfl, ?_, ⟨_, rfl⟩, hW, hsame.mono (by decide) (by decide)⟩
      · show Steps p.tables e below (s₁.setTop (mkF m 10 #[.val (.int i0)] [(.int 1), (.int i0)])) _
        refine XS.icmpNo X0.here hx rfl (hb hby d1_10) rfl (teq hc35).2 ?_
        show Steps p.tables e below (s₁.setTop (mkF m 13 #[.val (.int i0)] [])) _
        refine st36 _ ?_
        show Steps p.tables e below (T36.setTop (mkF m 16 #[.val (.int i0)] [(.ref w1)])) _
        exact retOut X36 hx Bd.returns rfl (Or.inr (Or.inr (Or.inr (Or.inr ⟨rfl, rfl, rfl⟩)))) (hb hby d1_16) hrL
      · show Q_rm1 _ _ _ _ _ _ _ _ _ _ _ _ _ _ _ _ _  T36.heap _
        rw [e36]
        exact ⟨congrArg (fun z => some (Value.ref z)) (hr.2.1 hc35).symm, N0, rfl⟩
    · skip
      have pre37 : ∀ tz_, Steps p.tables e below (s₁.setTop (mkF m 19 #[.val (.int i0)] [(.int 2), (.int i0)])) tz_ → Steps p.tables e below (s₁.setTop (entryFrame m #[(.int i0)] 1)) tz_ := fun tz_ kk => pre34 tz_ (by
        show Steps p.tables e below (s₁.setTop (mkF m 10 #[.val (.int i0)] [(.int 1), (.int i0)])) _
        refine XS.icmpYes X0.here hx rfl (pc0 := 10) (pc' := 17) rfl (hb hby d1_10) rfl (feq hc35).2 (by decide) (by decide) ?_
        refine XS.iloadN X0.here hx rfl (hb hby d1_17) rfl ?_
        refine XS.iconst X0.here hx rfl (hb hby d1_18) ?_
        exact kk)
      by_cases hc38 : i0 = (2 : Int32)
      · skip
        obtain ⟨T39, X39, e39, st39⟩ := getS2 X0 hx hZ hown (host := "") (Or.inl (hw _ (List.mem_of_getElem? (i := 21) rfl))) Via.refl e0 (p3_S.ext p0_O.2) (g := (mkF m 22 #[.val (.int i0)] [])) rfl (hb hby d1_22)
        obtain ⟨fs, hrL, hrun, hended, hW, hsame⟩ := X39.leave (v := some (.ref w2)) (fun h => by rw [Bd.returns] at h; cases h)
        refine ⟨_, _, pre37 _ ?_, hrun, hended, _, _, rfl, ?_, ⟨_, rfl⟩, hW, hsame.mono (by decide) (by decide)⟩
        · show Steps p.tables e below (s₁.setTop (mkF m 19 #[.val (.int i0)] [(.int 2), (.int i0)])) _
          refine XS.icmpNo X0.here hx rfl (hb hby d1_19) rfl (teq hc38).2 ?_
          show Steps p.tables e below (s₁.setTop (mkF m 22 #[.val (.int i0)] [])) _
          refine st39 _ ?_
          show Steps p.tables e below (T39.setTop (mkF m 25 #[.val (.int i0)] [(.ref w2)])) _
          exact retOut X39 hx Bd.returns rfl (Or.inr (Or.inr (Or.inr (Or.inr ⟨rfl, rfl, rfl⟩)))) (hb hby d1_25) hrL
        · show Q_rm1 _ _ _ _ _ _ _ _ _ _ _ _ _ _ _ _ _  T39.heap _
          rw [e39]
          exact ⟨congrArg (fun z => some (Value.ref z)) (hr.2.2.1 hc38).symm, N0, rfl⟩
      · skip
        have pre40 : ∀ tz_, Steps p.tables e below (s₁.setTop (mkF m 28 #[.val (.int i0)] [(.int 3), (.int i0)])) tz_ → Steps p.tables e below (s₁.setTop (entryFrame m #[(.int i0)] 1)) tz_ := fun tz_ kk => pre37 tz_ (by
          show Steps p.tables e below (s₁.setTop (mkF m 19 #[.val (.int i0)] [(.int 2), (.int i0)])) _
          refine XS.icmpYes X0.here hx rfl (pc0 := 19) (pc' := 26) rfl (hb hby d1_19) rfl (feq hc38).2 (by decide) (by decide) ?_
          refine XS.iloadN X0.here hx rfl (hb hby d1_26) rfl ?_
          show Steps p.tables e below (s₁.setTop (mkF m 27 #[.val (.int i0)] [(.int i0)])) _
          refine XS.iconst X0.here hx rfl (hb hby d1_27) ?_
          exact kk)
        by_cases hc41 : i0 = (3 : Int32)
        · skip
          obtain ⟨T42, X42, e42, st42⟩ := getS2 X0 hx hZ hown (host := "") (Or.inl (hw _ (List.mem_of_getElem? (i := 17) rfl))) Via.refl e0 (p4_S.ext p0_O.2) (g := (mkF m 31 #[.val (.int i0)] [])) rfl (hb hby d1_31)
          obtain ⟨fs, hrL, hrun, hended, hW, hsame⟩ := X42.leave (v := some (.ref w3)) (fun h => by rw [Bd.returns] at h; cases h)
          refine ⟨_, _, pre40 _ ?_, hrun, hended, _, _, rfl, ?_, ⟨_, rfl⟩, hW, hsame.mono (by decide) (by decide)⟩
          · show Steps p.tables e below (s₁.setTop (mkF m 28 #[.val (.int i0)] [(.int 3), (.int i0)])) _
            refine XS.icmpNo X0.here hx rfl (hb hby d1_28) rfl (teq hc41).2 ?_
            show Steps p.tables e below (s₁.setTop (mkF m 31 #[.val (.int i0)] [])) _
            refine st42 _ ?_
            show Steps p.tables e below (T42.setTop (mkF m 34 #[.val (.int i0)] [(.ref w3)])) _
            exact retOut X42 hx Bd.returns rfl (Or.inr (Or.inr (Or.inr (Or.inr ⟨rfl, rfl, rfl⟩)))) (hb hby d1_34) hrL
          · show Q_rm1 _ _ _ _ _ _ _ _ _ _ _ _ _ _ _ _ _  T42.heap _
            rw [e42]
            exact ⟨congrArg (fun z => some (Value.ref z)) (hr.2.2.2.1 hc41).symm, N0, rfl⟩
        · skip
          have pre43 : ∀ tz_, Steps p.tables e below (s₁.setTop (mkF m 37 #[.val (.int i0)] [(.int 4), (.int i0)])) tz_ → Steps p.tables e below (s₁.setTop (entryFrame m #[(.int i0)] 1)) tz_ := fun tz_ kk => pre40 tz_ (by
            show Steps p.tables e below (s₁.setTop (mkF m 28 #[.val (.int i0)] [(.int 3), (.int i0)])) _
            refine XS.icmpYes X0.here hx rfl (pc0 := 28) (pc' := 35) rfl (hb hby d1_28) rfl (feq hc41).2 (by decide) (by decide) ?_
            show Steps p.tables e below (s₁.setTop (mkF m 35 #[.val (.int i0)] [])) _
            refine XS.iloadN X0.here hx rfl (hb hby d1_35) rfl ?_
            refine XS.iconst X0.here hx rfl (hb hby d1_36) ?_
            exact kk)
          by_cases hc44 : i0 = (4 : Int32)
          · skip
            obtain ⟨T45, X45, e45, st45⟩ := getS2 X0 hx hZ hown (host := "") (Or.inl (hw _ (List.mem_of_getElem? (i := 33) rfl))) Via.refl e0 (p5_S.ext p0_O.2) (g := (mkF m 40 #[.val (.int i0)] [])) rfl (hb hby d1_40)
            obtain ⟨fs, hrL, hrun, hended, hW, hsame⟩ := X45.leave (v := some (.ref w4)) (fun h => by rw [Bd.returns] at h; cases h)
            refine ⟨_, _, pre43 _ ?_, hrun, hended, _, _, rfl, ?_, ⟨_, rfl⟩, hW, hsame.mono (by decide) (by decide)⟩
            · show Steps p.tables e below (s₁.setTop (mkF m 37 #[.val (.int i0)] [(.int 4), (.int i0)])) _
              refine XS.icmpNo X0.here hx rfl (hb hby d1_37) rfl (teq hc44).2 ?_
              show Steps p.tables e below (s₁.setTop (mkF m 40 #[.val (.int i0)] [])) _
              refine st45 _ ?_
              show Steps p.tables e below (T45.setTop (mkF m 43 #[.val (.int i0)] [(.ref w4)])) _
              exact retOut X45 hx Bd.returns rfl (Or.inr (Or.inr (Or.inr (Or.inr ⟨rfl, rfl, rfl⟩)))) (hb hby d1_43) hrL
            · show Q_rm1 _ _ _ _ _ _ _ _ _ _ _ _ _ _ _ _ _  T45.heap _
              rw [e45]
              exact ⟨congrArg (fun z => some (Value.ref z)) (hr.2.2.2.2.1 hc44).symm, N0, rfl⟩
          · skip
            have pre46 : ∀ tz_, Steps p.tables e below (s₁.setTop (mkF m 46 #[.val (.int i0)] [(.int 5), (.int i0)])) tz_ → Steps p.tables e below (s₁.setTop (entryFrame m #[(.int i0)] 1)) tz_ := fun tz_ kk => pre43 tz_ (by
              show Steps p.tables e below (s₁.setTop (mkF m 37 #[.val (.int i0)] [(.int 4), (.int i0)])) _
              refine XS.icmpYes X0.here hx rfl (pc0 := 37) (pc' := 44) rfl (hb hby d1_37) rfl (feq hc44).2 (by decide) (by decide) ?_
              refine XS.iloadN X0.here hx rfl (hb hby d1_44) rfl ?_
              refine XS.iconst X0.here hx rfl (hb hby d1_45) ?_
              exact kk)
            by_cases hc47 : i0 = (5 : Int32)
            · skip
              obtain ⟨T48, X48, e48, st48⟩ := getS2 X0 hx hZ hown (host := "") (Or.inl (hw _ (List.mem_of_getElem? (i := 29) rfl))) Via.refl e0 (p6_S.ext p0_O.2) (g := (mkF m 49 #[.val (.int i0)] [])) rfl (hb hby d1_49)
              obtain ⟨fs, hrL, hrun, hended, hW, hsame⟩ := X48.leave (v := some (.ref w5)) (fun h => by rw [Bd.returns] at h; cases h)
              refine ⟨_, _, pre46 _ ?_, hrun, hended, _, _, rfl, ?_, ⟨_, rfl⟩, hW, hsame.mono (by decide) (by decide)⟩
              · show Steps p.tables e below (s₁.setTop (mkF m 46 #[.val (.int i0)] [(.int 5), (.int i0)])) _
                refine XS.icmpNo X0.here hx rfl (hb hby d1_46) rfl (teq hc47).2 ?_
                show Steps p.tables e below (s₁.setTop (mkF m 49 #[.val (.int i0)] [])) _
                refine st48 _ ?_
                show Steps p.tables e below (T48.setTop (mkF m 52 #[.val (.int i0)] [(.ref w5)])) _
                exact retOut X48 hx Bd.returns rfl (Or.inr (Or.inr (Or.inr (Or.inr ⟨rfl, rfl, rfl⟩)))) (hb hby d1_52) hrL
              · show Q_rm1 _ _ _ _ _ _ _ _ _ _ _ _ _ _ _ _ _  T48.heap _
                rw [e48]
                exact ⟨congrArg (fun z => some (Value.ref z)) (hr.2.2.2.2.2.1 hc47).symm, N0, rfl⟩
            · skip
              have pre49 : ∀ tz_, Steps p.tables e below (s₁.setTop (mkF m 56 #[.val (.int i0)] [(.int 6), (.int i0)])) tz_ → Steps p.tables e below (s₁.setTop (entryFrame m #[(.int i0)] 1)) tz_ := fun tz_ kk => pre46 tz_ (by
                show Steps p.tables e below (s₁.setTop (mkF m 46 #[.val (.int i0)] [(.int 5), (.int i0)])) _
                refine XS.icmpYes X0.here hx rfl (pc0 := 46) (pc' := 53) rfl (hb hby d1_46) rfl (feq hc47).2 (by decide) (by decide) ?_
                refine XS.iloadN X0.here hx rfl (hb hby d1_53) rfl ?_
                refine XS.bipush X0.here hx rfl (hb hby d1_54) ?_
                exact kk)
              by_cases hc50 : i0 = (6 : Int32)
              · skip
                obtain ⟨T51, X51, e51, st51⟩ := getS2 X0 hx hZ hown (host := "") (Or.inl (hw _ (List.mem_of_getElem? (i := 31) rfl))) Via.refl e0 (p7_S.ext p0_O.2) (g := (mkF m 59 #[.val (.int i0)] [])) rfl (hb hby d1_59)
                obtain ⟨fs, hrL, hrun, hended, hW, hsame⟩ := X51.leave (v := some (.ref w6)) (fun h => by rw [Bd.returns] at h; cases h)
                refine ⟨_, _, pre49 _ ?_, hrun, hended, _, _, rfl, ?_, ⟨_, rfl⟩, hW, hsame.mono (by decide) (by decide)⟩
                · show Steps p.tables e below (s₁.setTop (mkF m 56 #[.val (.int i0)] [(.int 6), (.int i0)])) _
                  refine XS.icmpNo X0.here hx rfl (hb hby d1_56) rfl (teq hc50).2 ?_
                  show Steps p.tables e below (s₁.setTop (mkF m 59 #[.val (.int i0)] [])) _
                  refine st51 _ ?_
                  show Steps p.tables e below (T51.setTop (mkF m 62 #[.val (.int i0)] [(.ref w6)])) _
                  exact retOut X51 hx Bd.returns rfl (Or.inr (Or.inr (Or.inr (Or.inr ⟨rfl, rfl, rfl⟩)))) (hb hby d1_62) hrL
                · show Q_rm1 _ _ _ _ _ _ _ _ _ _ _ _ _ _ _ _ _  T51.heap _
                  rw [e51]
                  exact ⟨congrArg (fun z => some (Value.ref z)) (hr.2.2.2.2.2.2.1 hc50).symm, N0, rfl⟩
              · skip
                have pre52 : ∀ tz_, Steps p.tables e below (s₁.setTop (mkF m 66 #[.val (.int i0)] [(.int 7), (.int i0)])) tz_ → Steps p.tables e below (s₁.setTop (entryFrame m #[(.int i0)] 1)) tz_ := fun tz_ kk => pre49 tz_ (by
                  show Steps p.tables e below (s₁.setTop (mkF m 56 #[.val (.int i0)] [(.int 6), (.int i0)])) _
                  refine XS.icmpYes X0.here hx rfl (pc0 := 56) (pc' := 63) rfl (hb hby d1_56) rfl (feq hc50).2 (by decide) (by decide) ?_
                  refine XS.iloadN X0.here hx rfl (hb hby d1_63) rfl ?_
                  show Steps p.tables e below (s₁.setTop (mkF m 64 #[.val (.int i0)] [(.int i0)])) _
                  refine XS.bipush X0.here hx rfl (hb hby d1_64) ?_
                  exact kk)
                by_cases hc53 : i0 = (7 : Int32)
                · skip
                  obtain ⟨T54, X54, e54, st54⟩ := getS2 X0 hx hZ hown (host := "") (Or.inl (hw _ (List.mem_of_getElem? (i := 18) rfl))) Via.refl e0 (p8_S.ext p0_O.2) (g := (mkF m 69 #[.val (.int i0)] [])) rfl (hb hby d1_69)
                  obtain ⟨fs, hrL, hrun, hended, hW, hsame⟩ := X54.leave (v := some (.ref w7)) (fun h => by rw [Bd.returns] at h; cases h)
                  refine ⟨_, _, pre52 _ ?_, hrun, hended, _, _, rfl, ?_, ⟨_, rfl⟩, hW, hsame.mono (by decide) (by decide)⟩
                  · show Steps p.tables e below (s₁.setTop (mkF m 66 #[.val (.int i0)] [(.int 7), (.int i0)])) _
                    refine XS.icmpNo X0.here hx rfl (hb hby d1_66) rfl (teq hc53).2 ?_
                    show Steps p.tables e below (s₁.setTop (mkF m 69 #[.val (.int i0)] [])) _
                    refine st54 _ ?_
                    show Steps p.tables e below (T54.setTop (mkF m 72 #[.val (.int i0)] [(.ref w7)])) _
                    exact retOut X54 hx Bd.returns rfl (Or.inr (Or.inr (Or.inr (Or.inr ⟨rfl, rfl, rfl⟩)))) (hb hby d1_72) hrL
                  · show Q_rm1 _ _ _ _ _ _ _ _ _ _ _ _ _ _ _ _ _  T54.heap _
                    rw [e54]
                    exact ⟨congrArg (fun z => some (Value.ref z)) (hr.2.2.2.2.2.2.2.1 hc53).symm, N0, rfl⟩
                · skip
                  have pre55 : ∀ tz_, Steps p.tables e below (s₁.setTop (mkF m 76 #[.val (.int i0)] [(.int 8), (.int i0)])) tz_ → Steps p.tables e below (s₁.setTop (entryFrame m #[(.int i0)] 1)) tz_ := fun tz_ kk => pre52 tz_ (by
                    show Steps p.tables e below (s₁.setTop (mkF m 66 #[.val (.int i0)] [(.int 7), (.int i0)])) _
                    refine XS.icmpYes X0.here hx rfl (pc0 := 66) (pc' := 73) rfl (hb hby d1_66) rfl (feq hc53).2 (by decide) (by decide) ?_
                    show Steps p.tables e below (s₁.setTop (mkF m 73 #[.val (.int i0)] [])) _
                    refine XS.iloadN X0.here hx rfl (hb hby d1_73) rfl ?_
                    refine XS.bipush X0.here hx rfl (hb hby d1_74) ?_
                    exact kk)
                  by_cases hc56 : i0 = (8 : Int32)
                  · skip
                    obtain ⟨T57, X57, e57, st57⟩ := getS2 X0 hx hZ hown (host := "") (Or.inl (hw _ (List.mem_of_getElem? (i := 19) rfl))) Via.refl e0 (p9_S.ext p0_O.2) (g := (mkF m 79 #[.val (.int i0)] [])) rfl (hb hby d1_79)
                    obtain ⟨fs, hrL, hrun, hended, hW, hsame⟩ := X57.leave (v := some (.ref w8)) (fun h => by rw [Bd.returns] at h; cases h)
                    refine ⟨_, _, pre55 _ ?_, hrun, hended, _, _, rfl, ?_, ⟨_, rfl⟩, hW, hsame.mono (by decide) (by decide)⟩
                    · show Steps p.tables e below (s₁.setTop (mkF m 76 #[.val (.int i0)] [(.int 8), (.int i0)])) _
                      refine XS.icmpNo X0.here hx rfl (hb hby d1_76) rfl (teq hc56).2 ?_
                      show Steps p.tables e below (s₁.setTop (mkF m 79 #[.val (.int i0)] [])) _
                      refine st57 _ ?_
                      show Steps p.tables e below (T57.setTop (mkF m 82 #[.val (.int i0)] [(.ref w8)])) _
                      exact retOut X57 hx Bd.returns rfl (Or.inr (Or.inr (Or.inr (Or.inr ⟨rfl, rfl, rfl⟩)))) (hb hby d1_82) hrL
                    · show Q_rm1 _ _ _ _ _ _ _ _ _ _ _ _ _ _ _ _ _  T57.heap _
                      rw [e57]
                      exact ⟨congrArg (fun z => some (Value.ref z)) (hr.2.2.2.2.2.2.2.2.1 hc56).symm, N0, rfl⟩
                  · skip
                    have pre58 : ∀ tz_, Steps p.tables e below (s₁.setTop (mkF m 86 #[.val (.int i0)] [(.int 9), (.int i0)])) tz_ → Steps p.tables e below (s₁.setTop (entryFrame m #[(.int i0)] 1)) tz_ := fun tz_ kk => pre55 tz_ (by
                      show Steps p.tables e below (s₁.setTop (mkF m 76 #[.val (.int i0)] [(.int 8), (.int i0)])) _
                      refine XS.icmpYes X0.here hx rfl (pc0 := 76) (pc' := 83) rfl (hb hby d1_76) rfl (feq hc56).2 (by decide) (by decide) ?_
                      refine XS.iloadN X0.here hx rfl (hb hby d1_83) rfl ?_
                      refine XS.bipush X0.here hx rfl (hb hby d1_84) ?_
                      exact kk)
                    by_cases hc59 : i0 = (9 : Int32)
                    · skip
                      obtain ⟨T60, X60, e60, st60⟩ := getS2 X0 hx hZ hown (host := "") (Or.inl (hw _ (List.mem_of_getElem? (i := 27) rfl))) Via.refl e0 (p10_S.ext p0_O.2) (g := (mkF m 89 #[.val (.int i0)] [])) rfl (hb hby d1_89)
                      obtain ⟨fs, hrL, hrun, hended, hW, hsame⟩ := X60.leave (v := some (.ref w9)) (fun h => by rw [Bd.returns] at h; cases h)
                      refine ⟨_, _, pre58 _ ?_, hrun, hended, _, _, rfl, ?_, ⟨_, rfl⟩, hW, hsame.mono (by decide) (by decide)⟩
                      · show Steps p.tables e below (s₁.setTop (mkF m 86 #[.val (.int i0)] [(.int 9), (.int i0)])) _
                        refine XS.icmpNo X0.here hx rfl (hb hby d1_86) rfl (teq hc59).2 ?_
                        show Steps p.tables e below (s₁.setTop (mkF m 89 #[.val (.int i0)] [])) _
                        refine st60 _ ?_
                        show Steps p.tables e below (T60.setTop (mkF m 92 #[.val (.int i0)] [(.ref w9)])) _
                        exact retOut X60 hx Bd.returns rfl (Or.inr (Or.inr (Or.inr (Or.inr ⟨rfl, rfl, rfl⟩)))) (hb hby d1_92) hrL
                      · show Q_rm1 _ _ _ _ _ _ _ _ _ _ _ _ _ _ _ _ _  T60.heap _
                        rw [e60]
                        exact ⟨congrArg (fun z => some (Value.ref z)) (hr.2.2.2.2.2.2.2.2.2.1 hc59).symm, N0, rfl⟩
                    · skip
                      obtain ⟨T61, X61, e61, st61⟩ := getS2 X0 hx hZ hown (host := "") (Or.inl (hw _ (List.mem_of_getElem? (i := 23) rfl))) Via.refl e0 (p11_S.ext p0_O.2) (g := (mkF m 93 #[.val (.int i0)] [])) rfl (hb hby d1_93)
                      obtain ⟨fs, hrL, hrun, hended, hW, hsame⟩ := X61.leave (v := some (.ref w10)) (fun h => by rw [Bd.returns] at h; cases h)
                      refine ⟨_, _, pre58 _ ?_, hrun, hended, _, _, rfl, ?_, ⟨_, rfl⟩, hW, hsame.mono (by decide) (by decide)⟩
                      · show Steps p.tables e below (s₁.setTop (mkF m 86 #[.val (.int i0)] [(.int 9), (.int i0)])) _
                        refine XS.icmpYes X0.here hx rfl (pc0 := 86) (pc' := 93) rfl (hb hby d1_86) rfl (feq hc59).2 (by decide) (by decide) ?_
                        show Steps p.tables e below (s₁.setTop (mkF m 93 #[.val (.int i0)] [])) _
                        refine st61 _ ?_
                        show Steps p.tables e below (T61.setTop (mkF m 96 #[.val (.int i0)] [(.ref w10)])) _
                        exact retOut X61 hx Bd.returns rfl (Or.inr (Or.inr (Or.inr (Or.inr ⟨rfl, rfl, rfl⟩)))) (hb hby d1_96) hrL
                      · show Q_rm1 _ _ _ _ _ _ _ _ _ _ _ _ _ _ _ _ _  T61.heap _
                        rw [e61]
                        exact ⟨congrArg (fun z => some (Value.ref z)) (hr.2.2.2.2.2.2.2.2.2.2 hc32 hc35 hc38 hc41 hc44 hc47 hc50 hc53 hc56 hc59).symm, N0, rfl⟩
theorem d2_0 : decode prog_59_method_7_code 0 = .ok (.aload_n 0, 1) := by decide +kernel
theorem d2_1 : decode prog_59_method_7_code 1 = .ok (.getstatic 13, 3) := by decide +kernel
theorem d2_4 : decode prog_59_method_7_code 4 = .ok (.if_acmp .eq 10, 3) := by decide +kernel
theorem d2_14 : decode prog_59_method_7_code 14 = .ok (.iconst 1, 1) := by decide +kernel
theorem d2_15 : decode prog_59_method_7_code 15 = .ok (.goto 4, 3) := by decide +kernel
theorem d2_19 : decode prog_59_method_7_code 19 = .ok (.ireturn, 1) := by decide +kernel
theorem d2_7 : decode prog_59_method_7_code 7 = .ok (.aload_n 0, 1) := by decide +kernel
theorem d2_8 : decode prog_59_method_7_code 8 = .ok (.getstatic 25, 3) := by decide +kernel
theorem d2_11 : decode prog_59_method_7_code 11 = .ok (.if_acmp .ne 7, 3) := by decide +kernel
theorem d2_18 : decode prog_59_method_7_code 18 = .ok (.iconst 0, 1) := by decide +kernel
theorem pn_com_example_ledgerline_ledgerline_SettlementField : plainName "com/example/ledgerline/ledgerline/SettlementField" = true := by first | (simp [plainName, overriddenIn]; done) | decide +kernel
theorem ef_rm2 (m : MethodId) (a1 : Addr) : entryFrame m #[(.ref a1)] 1 = mkF m 0 #[.val (.ref a1)] [] := by first | (simp [entryFrame, mkF, argsToLocals, Value.category]; done) | rfl
def Q_rm2 (Z : State) (a1 : Addr) (w3 : Addr) (w7 : Addr) (rb : Int32) (h0 : Heap) (n0 : Nat) (v : Option Value) (h : Heap) (L : List Loc) : Prop := v = some (.int rb) ∧ Fr n0 L ∧ h = h0
set_option maxRecDepth 65536 in
set_option maxHeartbeats 40000000 in
theorem rm2 (l : Launch) (Z : State) (av0 : Array Value) (hw : ∀ d ∈ tables_1, d.before av0 Z = true) (ws : List Jvm.Cond) (a1 : Addr) (w3 : Addr) (w7 : Addr) (rb : Int32) (h0 : Heap) (n0 : Nat) (Z0 : n0 ≤ h0.size) (p0_O : Old Z n0 h0) (p1_S : Sta Z Z.heap "com/example/ledgerline/ledgerline/SettlementField" "SETTLEMENT_VERSION" "Lcom/example/ledgerline/ledgerline/SettlementField;" (.ref w3)) (p2_S : Sta Z Z.heap "com/example/ledgerline/ledgerline/SettlementField" "AMOUNT" "Lcom/example/ledgerline/ledgerline/SettlementField;" (.ref w7)) (hv : (a1 = w3 → rb = (1 : Int32)) ∧ (a1 = w7 → rb = (1 : Int32)) ∧ (¬ (a1 = w3) → ¬ (a1 = w7) → rb = (0 : Int32))) :
    MetFree l (⟨"com/example/ledgerline/ledgerline/SettlementField", "numeric", "()Z"⟩ : MethodName) (head1 (Jvm.Cond.code (⟨"com/example/ledgerline/ledgerline/SettlementField", "numeric", "()Z"⟩ : MethodName) prog_59_method_7_code 1 (some .boolean) :: ws) ({ frames := 0, cells := 0, slots := 0, locals := 0 } : Room)) (fun a U => a = #[(.ref a1)] ∧ Z.Warmed39 U.vm ∧ U.heap = h0) (fun _ _ _ _ _ => True) (fun _ U o U' => ∃ v L, o = .returned v ∧ Q_rm2 Z a1 w3 w7 rb h0 n0 v U'.heap L ∧ FrameEnd U o U' L ({ frames := 0, cells := 0, slots := 0, locals := 0 } : Room).cells ({ frames := 0, cells := 0, slots := 0, locals := 0 } : Room).slots) := by
  refine MetFree.of_bodySF (plainFor_of_name pn_com_example_ledgerline_ledgerline_SettlementField) hisR ?_
  intro p e s m args below meth c s₁ Bd hml0 hP hK
  obtain ⟨rfl, hZ, hh⟩ := hP
  have hx := Bd.exec
  have hby := Bd.bytes
  have hml : c.maxLocals = 1 := hml0
  have hown : s.vm.findClass "com/example/ledgerline/ledgerline/SettlementField" = some m.cls := findClass_of_methodNamed Bd.named
  have hnm := (name_of_methodNamed Bd.named Bd.method).1
  have X0 : Stand p l e ({ frames := 0, cells := 0, slots := 0, locals := 0 } : Room) s m #[(.ref a1)] below meth c s₁ [] 0 0 := Stand.of_body Bd
  have e0 : s₁.heap = h0 := by rw [← hh, Bd.state]; rfl
  have N0 := Fr.nil n0
  have pre0 : ∀ tz_, Steps p.tables e below (s₁.setTop (mkF m 0 #[.val (.ref a1)] [])) tz_ → Steps p.tables e below (s₁.setTop (entryFrame m #[(.ref a1)] 1)) tz_ := fun tz_ kz_ => castTop (ef_rm2 m a1) kz_
  obtain ⟨T31, X31, e31, st31⟩ := getS2 X0 hx hZ hown (host := "") (Or.inl (hw _ (List.mem_of_getElem? (i := 13) rfl))) Via.refl e0 (p1_S.ext p0_O.2) (g := (mkF m 1 #[.val (.ref a1)] [(.ref a1)])) rfl (hb hby d2_1)
  have pre32 : ∀ tz_, Steps p.tables e below (T31.setTop (mkF m 4 #[.val (.ref a1)] [(.ref w3), (.ref a1)])) tz_ → Steps p.tables e below (s₁.setTop (entryFrame m #[(.ref a1)] 1)) tz_ := fun tz_ kk => pre0 tz_ (by
    show Steps p.tables e below (s₁.setTop (mkF m 0 #[.val (.ref a1)] [])) _
    refine XS.aloadN X0.here hx rfl (hb hby d2_0) rfl rfl ?_
    show Steps p.tables e below (s₁.setTop (mkF m 1 #[.val (.ref a1)] [(.ref a1)])) _
    refine st31 _ ?_
    exact kk)
  by_cases hc33 : a1 = w3
  · skip
    obtain ⟨fs, hrL, hrun, hended, hW, hsame⟩ := X31.leave (v := some (.int 1)) (fun h => by rw [Bd.returns] at h; cases h)
    refine ⟨_, _, pre32 _ ?_, hrun, hended, _, _, rfl, ?_, ⟨_, rfl⟩, hW, hsame.mono (by decide) (by decide)⟩
    · show Steps p.tables e below (T31.setTop (mkF m 4 #[.val (.ref a1)] [(.ref w3), (.ref a1)])) _
      refine Jvm.RoadKit.acmp (g := (mkF m 4 #[.val (.ref a1)] [(.ref w3), (.ref a1)])) X31 hx rfl rfl rfl (pc0 := 4) (pc' := 14) (same := true) rfl (hb hby d2_4) rfl (decide_eq_true (congrArg Value.ref hc33)) (by decide) (by decide) ?_
      show Steps p.tables e below (T31.setTop (mkF m 14 #[.val (.ref a1)] [])) _
      refine XS.iconst X31.here hx rfl (hb hby d2_14) ?_
      refine XS.goto X31.here hx rfl (pc0 := 15) (pc' := 19) rfl (hb hby d2_15) (by decide) (by decide) ?_
      show Steps p.tables e below (T31.setTop (mkF m 19 #[.val (.ref a1)] [(.int 1)])) _
      exact retN X31 hx (t := .boolean) Bd.returns (by simp) (hb hby d2_19) hrL
    · show Q_rm2 _ _ _ _ _ _ _ _  T31.heap _
      rw [e31]
      exact ⟨congrArg (fun z => some (Value.int z)) (hv.1 hc33).symm, N0, rfl⟩
  · skip
    obtain ⟨T34, X34, e34, st34⟩ := getS2 X31 hx hZ hown (host := "") (Or.inl (hw _ (List.mem_of_getElem? (i := 15) rfl))) Via.refl e31 (p2_S.ext p0_O.2) (g := (mkF m 8 #[.val (.ref a1)] [(.ref a1)])) rfl (hb hby d2_8)
    have pre35 : ∀ tz_, Steps p.tables e below (T34.setTop (mkF m 11 #[.val (.ref a1)] [(.ref w7), (.ref a1)])) tz_ → Steps p.tables e below (s₁.setTop (entryFrame m #[(.ref a1)] 1)) tz_ := fun tz_ kk => pre32 tz_ (by
      show Steps p.tables e below (T31.setTop (mkF m 4 #[.val (.ref a1)] [(.ref w3), (.ref a1)])) _
      refine Jvm.RoadKit.acmp (g := (mkF m 4 #[.val (.ref a1)] [(.ref w3), (.ref a1)])) X31 hx rfl rfl rfl (pc0 := 4) (pc' := 7) (same := false) rfl (hb hby d2_4) rfl (decide_eq_false fun q => hc33 (Value.ref.inj q)) (by decide) (by decide) ?_
      refine XS.aloadN X31.here hx rfl (hb hby d2_7) rfl rfl ?_
      show Steps p.tables e below (T31.setTop (mkF m 8 #[.val (.ref a1)] [(.ref a1)])) _
      refine st34 _ ?_
      exact kk)
    by_cases hc36 : a1 = w7
    · skip
      obtain ⟨fs, hrL, hrun, hended, hW, hsame⟩ := X34.leave (v := some (.int 1)) (fun h => by rw [Bd.returns] at h; cases h)
      refine ⟨_, _, pre35 _ ?_, hrun, hended, _, _, rfl, ?_, ⟨_, rfl⟩, hW, hsame.mono (by decide) (by decide)⟩
      · show Steps p.tables e below (T34.setTop (mkF m 11 #[.val (.ref a1)] [(.ref w7), (.ref a1)])) _
        refine Jvm.RoadKit.acmp (g := (mkF m 11 #[.val (.ref a1)] [(.ref w7), (.ref a1)])) X34 hx rfl rfl rfl (pc0 := 11) (pc' := 14) (same := true) rfl (hb hby d2_11) rfl (decide_eq_true (congrArg Value.ref hc36)) (by decide) (by decide) ?_
        refine XS.iconst X34.here hx rfl (hb hby d2_14) ?_
        refine XS.goto X34.here hx rfl (pc0 := 15) (pc' := 19) rfl (hb hby d2_15) (by decide) (by decide) ?_
        show Steps p.tables e below (T34.setTop (mkF m 19 #[.val (.ref a1)] [(.int 1)])) _
        exact retN X34 hx (t := .boolean) Bd.returns (by simp) (hb hby d2_19) hrL
      · show Q_rm2 _ _ _ _ _ _ _ _  T34.heap _
        rw [e34]
        exact ⟨congrArg (fun z => some (Value.int z)) (hv.2.1 hc36).symm, N0, rfl⟩
    · skip
      obtain ⟨fs, hrL, hrun, hended, hW, hsame⟩ := X34.leave (v := some (.int 0)) (fun h => by rw [Bd.returns] at h; cases h)
      refine ⟨_, _, pre35 _ ?_, hrun, hended, _, _, rfl, ?_, ⟨_, rfl⟩, hW, hsame.mono (by decide) (by decide)⟩
      · show Steps p.tables e below (T34.setTop (mkF m 11 #[.val (.ref a1)] [(.ref w7), (.ref a1)])) _
        refine Jvm.RoadKit.acmp (g := (mkF m 11 #[.val (.ref a1)] [(.ref w7), (.ref a1)])) X34 hx rfl rfl rfl (pc0 := 11) (pc' := 18) (same := false) rfl (hb hby d2_11) rfl (decide_eq_false fun q => hc36 (Value.ref.inj q)) (by decide) (by decide) ?_
        refine XS.iconst X34.here hx rfl (hb hby d2_18) ?_
        show Steps p.tables e below (T34.setTop (mkF m 19 #[.val (.ref a1)] [(.int 0)])) _
        exact retN X34 hx (t := .boolean) Bd.returns (by simp) (hb hby d2_19) hrL
      · show Q_rm2 _ _ _ _ _ _ _ _  T34.heap _
        rw [e34]
        exact ⟨congrArg (fun z => some (Value.int z)) (hv.2.2 hc33 hc36).symm, N0, rfl⟩
theorem pd_0 : parseMethodDescriptor "(I)Lcom/example/ledgerline/ledgerline/SettlementField;" = some ⟨[.int], some (.object "com/example/ledgerline/ledgerline/SettlementField")⟩ := by decide +kernel
theorem pd_1 : parseMethodDescriptor "()Z" = some ⟨[], some .boolean⟩ := by decide +kernel
theorem ef_rm0 (m : MethodId) (i0 : Int32) : entryFrame m #[(.int i0)] maxLocals = mkF m 0 #[.val (.int i0), .unset, .unset, .unset] [] := by first | (simp [entryFrame, mkF, argsToLocals, Value.category, maxLocals]; done) | rfl
def Q_rm0 (Z : State) (i0 : Int32) (w0 : Addr) (w1 : Addr) (w2 : Addr) (w3 : Addr) (w4 : Addr) (w5 : Addr) (w6 : Addr) (w7 : Addr) (w8 : Addr) (w9 : Addr) (w10 : Addr) (r : Addr) (rb : Int32) (h0 : Heap) (n0 : Nat) (v : Option Value) (h : Heap) (L : List Loc) : Prop := v = some (.int 1) ∧ Fr n0 L ∧ h = h0
set_option maxRecDepth 65536 in
set_option maxHeartbeats 40000000 in
theorem rm0 (l : Launch) (Z : State) (av0 : Array Value) (hw : ∀ d ∈ tables_1, d.before av0 Z = true) (ws : List Jvm.Cond) (i0 : Int32) (w0 : Addr) (w1 : Addr) (w2 : Addr) (w3 : Addr) (w4 : Addr) (w5 : Addr) (w6 : Addr) (w7 : Addr) (w8 : Addr) (w9 : Addr) (w10 : Addr) (r : Addr) (rb : Int32) (h0 : Heap) (n0 : Nat) (Z0 : n0 ≤ h0.size) (p0_O : Old Z n0 h0) (p1_S : Sta Z Z.heap "com/example/ledgerline/ledgerline/SettlementField" "PTS" "Lcom/example/ledgerline/ledgerline/SettlementField;" (.ref w0)) (p2_S : Sta Z Z.heap "com/example/ledgerline/ledgerline/SettlementField" "PROCESSING_ENTITY" "Lcom/example/ledgerline/ledgerline/SettlementField;" (.ref w1)) (p3_S : Sta Z Z.heap "com/example/ledgerline/ledgerline/SettlementField" "SETTLEMENT_ID" "Lcom/example/ledgerline/ledgerline/SettlementField;" (.ref w2)) (p4_S : Sta Z Z.heap "com/example/ledgerline/ledgerline/SettlementField" "SETTLEMENT_VERSION" "Lcom/example/ledgerline/ledgerline/SettlementField;" (.ref w3)) (p5_S : Sta Z Z.heap "com/example/ledgerline/ledgerline/SettlementField" "COUNTERPARTY_ID" "Lcom/example/ledgerline/ledgerline/SettlementField;" (.ref w4)) (p6_S : Sta Z Z.heap "com/example/ledgerline/ledgerline/SettlementField" "VALUE_DATE" "Lcom/example/ledgerline/ledgerline/SettlementField;" (.ref w5)) (p7_S : Sta Z Z.heap "com/example/ledgerline/ledgerline/SettlementField" "CURRENCY" "Lcom/example/ledgerline/ledgerline/SettlementField;" (.ref w6)) (p8_S : Sta Z Z.heap "com/example/ledgerline/ledgerline/SettlementField" "AMOUNT" "Lcom/example/ledgerline/ledgerline/SettlementField;" (.ref w7)) (p9_S : Sta Z Z.heap "com/example/ledgerline/ledgerline/SettlementField" "DIRECTION" "Lcom/example/ledgerline/ledgerline/SettlementField;" (.ref w8)) (p10_S : Sta Z Z.heap "com/example/ledgerline/ledgerline/SettlementField" "GROSS_NET" "Lcom/example/ledgerline/ledgerline/SettlementField;" (.ref w9)) (p11_S : Sta Z Z.heap "com/example/ledgerline/ledgerline/SettlementField" "BUSINESS_STATUS" "Lcom/example/ledgerline/ledgerline/SettlementField;" (.ref w10)) (p12_E : Exa Z h0 r "com/example/ledgerline/ledgerline/SettlementField") (hr : (((i0 &&& (2147483647 : Int32)) % (11 : Int32)) = (0 : Int32) → r = w0) ∧ (((i0 &&& (2147483647 : Int32)) % (11 : Int32)) = (1 : Int32) → r = w1) ∧ (((i0 &&& (2147483647 : Int32)) % (11 : Int32)) = (2 : Int32) → r = w2) ∧ (((i0 &&& (2147483647 : Int32)) % (11 : Int32)) = (3 : Int32) → r = w3) ∧ (((i0 &&& (2147483647 : Int32)) % (11 : Int32)) = (4 : Int32) → r = w4) ∧ (((i0 &&& (2147483647 : Int32)) % (11 : Int32)) = (5 : Int32) → r = w5) ∧ (((i0 &&& (2147483647 : Int32)) % (11 : Int32)) = (6 : Int32) → r = w6) ∧ (((i0 &&& (2147483647 : Int32)) % (11 : Int32)) = (7 : Int32) → r = w7) ∧ (((i0 &&& (2147483647 : Int32)) % (11 : Int32)) = (8 : Int32) → r = w8) ∧ (((i0 &&& (2147483647 : Int32)) % (11 : Int32)) = (9 : Int32) → r = w9) ∧ (¬ (((i0 &&& (2147483647 : Int32)) % (11 : Int32)) = (0 : Int32)) → ¬ (((i0 &&& (2147483647 : Int32)) % (11 : Int32)) = (1 : Int32)) → ¬ (((i0 &&& (2147483647 : Int32)) % (11 : Int32)) = (2 : Int32)) → ¬ (((i0 &&& (2147483647 : Int32)) % (11 : Int32)) = (3 : Int32)) → ¬ (((i0 &&& (2147483647 : Int32)) % (11 : Int32)) = (4 : Int32)) → ¬ (((i0 &&& (2147483647 : Int32)) % (11 : Int32)) = (5 : Int32)) → ¬ (((i0 &&& (2147483647 : Int32)) % (11 : Int32)) = (6 : Int32)) → ¬ (((i0 &&& (2147483647 : Int32)) % (11 : Int32)) = (7 : Int32)) → ¬ (((i0 &&& (2147483647 : Int32)) % (11 : Int32)) = (8 : Int32)) → ¬ (((i0 &&& (2147483647 : Int32)) % (11 : Int32)) = (9 : Int32)) → r = w10)) (hv : (r = w3 → rb = (1 : Int32)) ∧ (r = w7 → rb = (1 : Int32)) ∧ (¬ (r = w3) → ¬ (r = w7) → rb = (0 : Int32))) (he : (((i0 &&& (2147483647 : Int32)) % (11 : Int32)) = (3 : Int32) → rb = (1 : Int32)) ∧ (((i0 &&& (2147483647 : Int32)) % (11 : Int32)) = (7 : Int32) → rb = (1 : Int32)) ∧ (¬ (((i0 &&& (2147483647 : Int32)) % (11 : Int32)) = (3 : Int32)) → ¬ (((i0 &&& (2147483647 : Int32)) % (11 : Int32)) = (7 : Int32)) → rb = (0 : Int32))) :
    MetFree l x (head1 (Jvm.Cond.code x code maxLocals ret :: ws) room_1) (fun a U => a = #[(.int i0)] ∧ Z.Warmed39 U.vm ∧ U.heap = h0) (fun _ _ _ _ _ => True) (fun _ U o U' => ∃ v L, o = .returned v ∧ Q_rm0 Z i0 w0 w1 w2 w3 w4 w5 w6 w7 w8 w9 w10 r rb h0 n0 v U'.heap L ∧ FrameEnd U o U' L room_1.cells room_1.slots) := by
  refine MetFree.of_bodySF (plainFor_of_name pn_com_example_ledgerline_ledgerline_SettlementFieldNumericPinLaw) hisR ?_
  intro p e s m args below meth c s₁ Bd hml0 hP hK
  obtain ⟨rfl, hZ, hh⟩ := hP
  have hx := Bd.exec
  have hby := Bd.bytes
  have hml : c.maxLocals = 4 := hml0
  have hown : s.vm.findClass "com/example/ledgerline/ledgerline/SettlementFieldNumericPinLaw" = some m.cls := findClass_of_methodNamed Bd.named
  have hnm := (name_of_methodNamed Bd.named Bd.method).1
  have X0 : Stand p l e room_1 s m #[(.int i0)] below meth c s₁ [] 0 0 := Stand.of_body Bd
  have e0 : s₁.heap = h0 := by rw [← hh, Bd.state]; rfl
  have N0 := Fr.nil n0
  have pre0 : ∀ tz_, Steps p.tables e below (s₁.setTop (mkF m 0 #[.val (.int i0), .unset, .unset, .unset] [])) tz_ → Steps p.tables e below (s₁.setTop (entryFrame m #[(.int i0)] maxLocals)) tz_ := fun tz_ kz_ => castTop (ef_rm0 m i0) kz_
  -- pc 9: SettlementFieldNumericPinLaw.pick
  obtain ⟨_, _, ⟨T31, L31, k31, n31⟩, -, X31, ⟨Lc31, hQ31, l31, y31, z31⟩, st31⟩ := Jvm.LawKit.callS X0 hx (y := (⟨"com/example/ledgerline/ledgerline/SettlementFieldNumericPinLaw", "pick", "(I)Lcom/example/ledgerline/ledgerline/SettlementField;"⟩ : MethodName)) hown (mvT hZ (hw _ (List.mem_of_getElem? (i := 1) rfl))) (mvT hZ (hw _ (List.mem_of_getElem? (i := 2) rfl))) (mvT hZ (hw _ (List.mem_of_getElem? (i := 3) rfl))) (mvT hZ (hw _ (List.mem_of_getElem? (i := 4) rfl))) (by decide) (backOf (W := 0) (rm1 l Z av0 hw [] ((i0 &&& (2147483647 : Int32)) % (11 : Int32)) w0 w1 w2 w3 w4 w5 w6 w7 w8 w9 w10 r h0 n0 (own_le p0_O) p0_O p1_S p2_S p3_S p4_S p5_S p6_S p7_S p8_S p9_S p10_S p11_S (hr : (((i0 &&& (2147483647 : Int32)) % (11 : Int32)) = (0 : Int32) → r = w0) ∧ (((i0 &&& (2147483647 : Int32)) % (11 : Int32)) = (1 : Int32) → r = w1) ∧ (((i0 &&& (2147483647 : Int32)) % (11 : Int32)) = (2 : Int32) → r = w2) ∧ (((i0 &&& (2147483647 : Int32)) % (11 : Int32)) = (3 : Int32) → r = w3) ∧ (((i0 &&& (2147483647 : Int32)) % (11 : Int32)) = (4 : Int32) → r = w4) ∧ (((i0 &&& (2147483647 : Int32)) % (11 : Int32)) = (5 : Int32) → r = w5) ∧ (((i0 &&& (2147483647 : Int32)) % (11 : Int32)) = (6 : Int32) → r = w6) ∧ (((i0 &&& (2147483647 : Int32)) % (11 : Int32)) = (7 : Int32) → r = w7) ∧ (((i0 &&& (2147483647 : Int32)) % (11 : Int32)) = (8 : Int32) → r = w8) ∧ (((i0 &&& (2147483647 : Int32)) % (11 : Int32)) = (9 : Int32) → r = w9) ∧ (¬ (((i0 &&& (2147483647 : Int32)) % (11 : Int32)) = (0 : Int32)) → ¬ (((i0 &&& (2147483647 : Int32)) % (11 : Int32)) = (1 : Int32)) → ¬ (((i0 &&& (2147483647 : Int32)) % (11 : Int32)) = (2 : Int32)) → ¬ (((i0 &&& (2147483647 : Int32)) % (11 : Int32)) = (3 : Int32)) → ¬ (((i0 &&& (2147483647 : Int32)) % (11 : Int32)) = (4 : Int32)) → ¬ (((i0 &&& (2147483647 : Int32)) % (11 : Int32)) = (5 : Int32)) → ¬ (((i0 &&& (2147483647 : Int32)) % (11 : Int32)) = (6 : Int32)) → ¬ (((i0 &&& (2147483647 : Int32)) % (11 : Int32)) = (7 : Int32)) → ¬ (((i0 &&& (2147483647 : Int32)) % (11 : Int32)) = (8 : Int32)) → ¬ (((i0 &&& (2147483647 : Int32)) % (11 : Int32)) = (9 : Int32)) → r = w10))) hZ (hw _ (List.mem_of_getElem? (i := 4) rfl)) (hw _ (List.mem_of_getElem? (i := 3) rfl)) (by decide) (by decide)) (g := (mkF m 9 #[.val (.int i0), .val (.int ((i0 &&& (2147483647 : Int32)) % (11 : Int32))), .unset, .unset] [(.int ((i0 &&& (2147483647 : Int32)) % (11 : Int32)))])) rfl (by rw [hml]; rfl) (argsL := [(.int ((i0 &&& (2147483647 : Int32)) % (11 : Int32)))]) (rest := []) (lenOf pd_0 rfl) rfl (by show 2 * 0 + _ ≤ _; exact Nat.le_of_eq rfl) (hb hby at_9) (fun vmx hWx => ⟨rfl, e0, (by decide : 0 + 0 ≤ _), (by decide : 0 + 0 ≤ _)⟩)
  dsimp only [Pt.U, Pt.locs, Pt.cells, Pt.slots] at X31 l31 y31 z31 st31 hQ31
  subst l31 y31 z31
  obtain ⟨rv31, Nq31, Kq31⟩ := hQ31
  subst rv31
  have N31 := Fr.app N0 Nq31
  have pre32 : ∀ tz_, Steps p.tables e below (T31.setTop (mkF m 15 #[.val (.int i0), .val (.int ((i0 &&& (2147483647 : Int32)) % (11 : Int32))), .val (.ref r), .unset] [(.int 3), (.int ((i0 &&& (2147483647 : Int32)) % (11 : Int32)))])) tz_ → Steps p.tables e below (s₁.setTop (entryFrame m #[(.int i0)] maxLocals)) tz_ := fun tz_ kk => pre0 tz_ (by
    show Steps p.tables e below (s₁.setTop (mkF m 0 #[.val (.int i0), .unset, .unset, .unset] [])) _
    refine XS.iloadN X0.here hx rfl (hb hby at_0) rfl ?_
    show Steps p.tables e below (s₁.setTop (mkF m 1 #[.val (.int i0), .unset, .unset, .unset] [(.int i0)])) _
    refine X0.ldcInt hx hown (mvT hZ (hw _ (List.mem_of_getElem? (i := 0) rfl))) (g := (mkF m 1 #[.val (.int i0), .unset, .unset, .unset] [(.int i0)])) rfl (hb hby at_1) _ ?_
    show Steps p.tables e below (s₁.setTop (mkF m 3 #[.val (.int i0), .unset, .unset, .unset] [(.int 2147483647), (.int i0)])) _
    refine XS.iand X0.here hx rfl (hb hby at_3) rfl ?_
    show Steps p.tables e below (s₁.setTop (mkF m 4 #[.val (.int i0), .unset, .unset, .unset] [(.int (i0 &&& (2147483647 : Int32)))])) _
    refine XS.bipush X0.here hx rfl (hb hby at_4) ?_
    show Steps p.tables e below (s₁.setTop (mkF m 6 #[.val (.int i0), .unset, .unset, .unset] [(.int 11), (.int (i0 &&& (2147483647 : Int32)))])) _
    refine Jvm.RoadKit.iremM X0 hx rfl (hb hby at_6) rfl (by decide) ?_
    refine XS.istoreN X0.here hx rfl (hb hby at_7) rfl (l' := #[.val (.int i0), .val (.int ((i0 &&& (2147483647 : Int32)) % (11 : Int32))), .unset, .unset]) rfl ?_
    refine XS.iloadN X0.here hx rfl (hb hby at_8) rfl ?_
    show Steps p.tables e below (s₁.setTop (mkF m 9 #[.val (.int i0), .val (.int ((i0 &&& (2147483647 : Int32)) % (11 : Int32))), .unset, .unset] [(.int ((i0 &&& (2147483647 : Int32)) % (11 : Int32)))])) _
    refine st31 _ ?_
    refine XS.astoreN X31.here hx rfl (hb hby at_12) rfl rfl (l' := #[.val (.int i0), .val (.int ((i0 &&& (2147483647 : Int32)) % (11 : Int32))), .val (.ref r), .unset]) rfl ?_
    refine XS.iloadN X31.here hx rfl (hb hby at_13) rfl ?_
    refine XS.iconst X31.here hx rfl (hb hby at_14) ?_
    exact kk)
  by_cases hc33 : ((i0 &&& (2147483647 : Int32)) % (11 : Int32)) = (3 : Int32)
  · skip
    -- pc 31: SettlementField.numeric
    obtain ⟨cq34, kq34, q34a, q34b, q34c⟩ := isOf hZ Kq31 p12_E
    obtain ⟨_, _, ⟨T34, L34, k34, n34⟩, -, X34, ⟨Lc34, hQ34, l34, y34, z34⟩, st34⟩ := X31.virtualBack hx (y := (⟨"com/example/ledgerline/ledgerline/SettlementField", "numeric", "()Z"⟩ : MethodName)) (z := (⟨"com/example/ledgerline/ledgerline/SettlementField", "numeric", "()Z"⟩ : MethodName)) hown (mvT hZ (hw _ (List.mem_of_getElem? (i := 8) rfl))) (mvT hZ (hw _ (List.mem_of_getElem? (i := 9) rfl))) (notFace_of_selects (args := #[]) (mvT hZ (hw _ (List.mem_of_getElem? (i := 11) rfl)))) (mvT hZ (hw _ (List.mem_of_getElem? (i := 11) rfl))) (mvT hZ (hw _ (List.mem_of_getElem? (i := 10) rfl))) (by decide) (backOf (W := 0) (rm2 l Z av0 hw [] r w3 w7 rb h0 n0 (own_le p0_O) p0_O p4_S p8_S (hv : (r = w3 → rb = (1 : Int32)) ∧ (r = w7 → rb = (1 : Int32)) ∧ (¬ (r = w3) → ¬ (r = w7) → rb = (0 : Int32)))) hZ (hw _ (List.mem_of_getElem? (i := 12) rfl)) (hw _ (List.mem_of_getElem? (i := 6) rfl)) (by decide) (by decide)) q34a q34c (g := (mkF m 31 #[.val (.int i0), .val (.int ((i0 &&& (2147483647 : Int32)) % (11 : Int32))), .val (.ref r), .val (.int 1)] [(.ref r)])) rfl (by rw [hml]; rfl) (Steps.refl _) (argsL := []) (rest := []) (lenOf pd_1 rfl) rfl (by show 2 * 0 + _ ≤ _; exact Nat.le_of_eq rfl) (hb hby at_31) (fun vmx hWx => ⟨rfl, Kq31, (by decide : 0 + 0 ≤ _), (by decide : 0 + 0 ≤ _)⟩)
    dsimp only [Pt.U, Pt.locs, Pt.cells, Pt.slots] at X34 l34 y34 z34 st34 hQ34
    subst l34 y34 z34
    obtain ⟨rv34, Nq34, Kq34⟩ := hQ34
    subst rv34
    have N34 := Fr.app N31 Nq34
    obtain ⟨fs, hrL, hrun, hended, hW, hsame⟩ := X34.leave (v := some (.int 1)) (fun h => by rw [Bd.returns] at h; cases h)
    refine ⟨_, _, pre32 _ ?_, hrun, hended, _, _, rfl, ?_, ⟨_, rfl⟩, hW, hsame.mono (by decide) (by decide)⟩
    · show Steps p.tables e below (T31.setTop (mkF m 15 #[.val (.int i0), .val (.int ((i0 &&& (2147483647 : Int32)) % (11 : Int32))), .val (.ref r), .unset] [(.int 3), (.int ((i0 &&& (2147483647 : Int32)) % (11 : Int32)))])) _
      refine XS.icmpYes X31.here hx rfl (pc0 := 15) (pc' := 24) rfl (hb hby at_15) rfl (teq hc33).1 (by decide) (by decide) ?_
      refine XS.iconst X31.here hx rfl (hb hby at_24) ?_
      refine XS.goto X31.here hx rfl (pc0 := 25) (pc' := 29) rfl (hb hby at_25) (by decide) (by decide) ?_
      refine XS.istoreN X31.here hx rfl (hb hby at_29) rfl (l' := #[.val (.int i0), .val (.int ((i0 &&& (2147483647 : Int32)) % (11 : Int32))), .val (.ref r), .val (.int 1)]) rfl ?_
      show Steps p.tables e below (T31.setTop (mkF m 30 #[.val (.int i0), .val (.int ((i0 &&& (2147483647 : Int32)) % (11 : Int32))), .val (.ref r), .val (.int 1)] [])) _
      refine XS.aloadN X31.here hx rfl (hb hby at_30) rfl rfl ?_
      show Steps p.tables e below (T31.setTop (mkF m 31 #[.val (.int i0), .val (.int ((i0 &&& (2147483647 : Int32)) % (11 : Int32))), .val (.ref r), .val (.int 1)] [(.ref r)])) _
      refine st34.trans ?_
      refine XS.iloadN X34.here hx rfl (hb hby at_34) rfl ?_
      show Steps p.tables e below (T34.setTop (mkF m 35 #[.val (.int i0), .val (.int ((i0 &&& (2147483647 : Int32)) % (11 : Int32))), .val (.ref r), .val (.int 1)] [(.int 1), (.int rb)])) _
      refine XS.icmpNo X34.here hx rfl (hb hby at_35) rfl (teq (he.1 hc33 : rb = (1 : Int32))).2 ?_
      show Steps p.tables e below (T34.setTop (mkF m 38 #[.val (.int i0), .val (.int ((i0 &&& (2147483647 : Int32)) % (11 : Int32))), .val (.ref r), .val (.int 1)] [])) _
      refine XS.iconst X34.here hx rfl (hb hby at_38) ?_
      refine XS.goto X34.here hx rfl (pc0 := 39) (pc' := 43) rfl (hb hby at_39) (by decide) (by decide) ?_
      show Steps p.tables e below (T34.setTop (mkF m 43 #[.val (.int i0), .val (.int ((i0 &&& (2147483647 : Int32)) % (11 : Int32))), .val (.ref r), .val (.int 1)] [(.int 1)])) _
      exact retN X34 hx (t := .boolean) Bd.returns (by simp) (hb hby at_43) hrL
    · show Q_rm0 _ _ _ _ _ _ _ _ _ _ _ _ _ _ _ _ _ _  T34.heap _
      rw [Kq34]
      exact ⟨rfl, N34, rfl⟩
  · skip
    have pre35 : ∀ tz_, Steps p.tables e below (T31.setTop (mkF m 21 #[.val (.int i0), .val (.int ((i0 &&& (2147483647 : Int32)) % (11 : Int32))), .val (.ref r), .unset] [(.int 7), (.int ((i0 &&& (2147483647 : Int32)) % (11 : Int32)))])) tz_ → Steps p.tables e below (s₁.setTop (entryFrame m #[(.int i0)] maxLocals)) tz_ := fun tz_ kk => pre32 tz_ (by
      show Steps p.tables e below (T31.setTop (mkF m 15 #[.val (.int i0), .val (.int ((i0 &&& (2147483647 : Int32)) % (11 : Int32))), .val (.ref r), .unset] [(.int 3), (.int ((i0 &&& (2147483647 : Int32)) % (11 : Int32)))])) _
      refine XS.icmpNo X31.here hx rfl (hb hby at_15) rfl (feq hc33).1 ?_
      refine XS.iloadN X31.here hx rfl (hb hby at_18) rfl ?_
      show Steps p.tables e below (T31.setTop (mkF m 19 #[.val (.int i0), .val (.int ((i0 &&& (2147483647 : Int32)) % (11 : Int32))), .val (.ref r), .unset] [(.int ((i0 &&& (2147483647 : Int32)) % (11 : Int32)))])) _
      refine XS.bipush X31.here hx rfl (hb hby at_19) ?_
      exact kk)
    by_cases hc36 : ((i0 &&& (2147483647 : Int32)) % (11 : Int32)) = (7 : Int32)
    · skip
      -- pc 31: SettlementField.numeric
      obtain ⟨cq37, kq37, q37a, q37b, q37c⟩ := isOf hZ Kq31 p12_E
      obtain ⟨_, _, ⟨T37, L37, k37, n37⟩, -, X37, ⟨Lc37, hQ37, l37, y37, z37⟩, st37⟩ := X31.virtualBack hx (y := (⟨"com/example/ledgerline/ledgerline/SettlementField", "numeric", "()Z"⟩ : MethodName)) (z := (⟨"com/example/ledgerline/ledgerline/SettlementField", "numeric", "()Z"⟩ : MethodName)) hown (mvT hZ (hw _ (List.mem_of_getElem? (i := 8) rfl))) (mvT hZ (hw _ (List.mem_of_getElem? (i := 9) rfl))) (notFace_of_selects (args := #[]) (mvT hZ (hw _ (List.mem_of_getElem? (i := 11) rfl)))) (mvT hZ (hw _ (List.mem_of_getElem? (i := 11) rfl))) (mvT hZ (hw _ (List.mem_of_getElem? (i := 10) rfl))) (by decide) (backOf (W := 0) (rm2 l Z av0 hw [] r w3 w7 rb h0 n0 (own_le p0_O) p0_O p4_S p8_S (hv : (r = w3 → rb = (1 : Int32)) ∧ (r = w7 → rb = (1 : Int32)) ∧ (¬ (r = w3) → ¬ (r = w7) → rb = (0 : Int32)))) hZ (hw _ (List.mem_of_getElem? (i := 12) rfl)) (hw _ (List.mem_of_getElem? (i := 6) rfl)) (by decide) (by decide)) q37a q37c (g := (mkF m 31 #[.val (.int i0), .val (.int ((i0 &&& (2147483647 : Int32)) % (11 : Int32))), .val (.ref r), .val (.int 1)] [(.ref r)])) rfl (by rw [hml]; rfl) (Steps.refl _) (argsL := []) (rest := []) (lenOf pd_1 rfl) rfl (by show 2 * 0 + _ ≤ _; exact Nat.le_of_eq rfl) (hb hby at_31) (fun vmx hWx => ⟨rfl, Kq31, (by decide : 0 + 0 ≤ _), (by decide : 0 + 0 ≤ _)⟩)
      dsimp only [Pt.U, Pt.locs, Pt.cells, Pt.slots] at X37 l37 y37 z37 st37 hQ37
      subst l37 y37 z37
      obtain ⟨rv37, Nq37, Kq37⟩ := hQ37
      subst rv37
      have N37 := Fr.app N31 Nq37
      obtain ⟨fs, hrL, hrun, hended, hW, hsame⟩ := X37.leave (v := some (.int 1)) (fun h => by rw [Bd.returns] at h; cases h)
      refine ⟨_, _, pre35 _ ?_, hrun, hended, _, _, rfl, ?_, ⟨_, rfl⟩, hW, hsame.mono (by decide) (by decide)⟩
      · show Steps p.tables e below (T31.setTop (mkF m 21 #[.val (.int i0), .val (.int ((i0 &&& (2147483647 : Int32)) % (11 : Int32))), .val (.ref r), .unset] [(.int 7), (.int ((i0 &&& (2147483647 : Int32)) % (11 : Int32)))])) _
        refine XS.icmpNo X31.here hx rfl (hb hby at_21) rfl (teq hc36).2 ?_
        refine XS.iconst X31.here hx rfl (hb hby at_24) ?_
        refine XS.goto X31.here hx rfl (pc0 := 25) (pc' := 29) rfl (hb hby at_25) (by decide) (by decide) ?_
        show Steps p.tables e below (T31.setTop (mkF m 29 #[.val (.int i0), .val (.int ((i0 &&& (2147483647 : Int32)) % (11 : Int32))), .val (.ref r), .unset] [(.int 1)])) _
        refine XS.istoreN X31.here hx rfl (hb hby at_29) rfl (l' := #[.val (.int i0), .val (.int ((i0 &&& (2147483647 : Int32)) % (11 : Int32))), .val (.ref r), .val (.int 1)]) rfl ?_
        refine XS.aloadN X31.here hx rfl (hb hby at_30) rfl rfl ?_
        show Steps p.tables e below (T31.setTop (mkF m 31 #[.val (.int i0), .val (.int ((i0 &&& (2147483647 : Int32)) % (11 : Int32))), .val (.ref r), .val (.int 1)] [(.ref r)])) _
        refine st37.trans ?_
        refine XS.iloadN X37.here hx rfl (hb hby at_34) rfl ?_
        show Steps p.tables e below (T37.setTop (mkF m 35 #[.val (.int i0), .val (.int ((i0 &&& (2147483647 : Int32)) % (11 : Int32))), .val (.ref r), .val (.int 1)] [(.int 1), (.int rb)])) _
        refine XS.icmpNo X37.here hx rfl (hb hby at_35) rfl (teq (he.2.1 hc36 : rb = (1 : Int32))).2 ?_
        refine XS.iconst X37.here hx rfl (hb hby at_38) ?_
        refine XS.goto X37.here hx rfl (pc0 := 39) (pc' := 43) rfl (hb hby at_39) (by decide) (by decide) ?_
        show Steps p.tables e below (T37.setTop (mkF m 43 #[.val (.int i0), .val (.int ((i0 &&& (2147483647 : Int32)) % (11 : Int32))), .val (.ref r), .val (.int 1)] [(.int 1)])) _
        exact retN X37 hx (t := .boolean) Bd.returns (by simp) (hb hby at_43) hrL
      · show Q_rm0 _ _ _ _ _ _ _ _ _ _ _ _ _ _ _ _ _ _  T37.heap _
        rw [Kq37]
        exact ⟨rfl, N37, rfl⟩
    · skip
      -- pc 31: SettlementField.numeric
      obtain ⟨cq38, kq38, q38a, q38b, q38c⟩ := isOf hZ Kq31 p12_E
      obtain ⟨_, _, ⟨T38, L38, k38, n38⟩, -, X38, ⟨Lc38, hQ38, l38, y38, z38⟩, st38⟩ := X31.virtualBack hx (y := (⟨"com/example/ledgerline/ledgerline/SettlementField", "numeric", "()Z"⟩ : MethodName)) (z := (⟨"com/example/ledgerline/ledgerline/SettlementField", "numeric", "()Z"⟩ : MethodName)) hown (mvT hZ (hw _ (List.mem_of_getElem? (i := 8) rfl))) (mvT hZ (hw _ (List.mem_of_getElem? (i := 9) rfl))) (notFace_of_selects (args := #[]) (mvT hZ (hw _ (List.mem_of_getElem? (i := 11) rfl)))) (mvT hZ (hw _ (List.mem_of_getElem? (i := 11) rfl))) (mvT hZ (hw _ (List.mem_of_getElem? (i := 10) rfl))) (by decide) (backOf (W := 0) (rm2 l Z av0 hw [] r w3 w7 rb h0 n0 (own_le p0_O) p0_O p4_S p8_S (hv : (r = w3 → rb = (1 : Int32)) ∧ (r = w7 → rb = (1 : Int32)) ∧ (¬ (r = w3) → ¬ (r = w7) → rb = (0 : Int32)))) hZ (hw _ (List.mem_of_getElem? (i := 12) rfl)) (hw _ (List.mem_of_getElem? (i := 6) rfl)) (by decide) (by decide)) q38a q38c (g := (mkF m 31 #[.val (.int i0), .val (.int ((i0 &&& (2147483647 : Int32)) % (11 : Int32))), .val (.ref r), .val (.int 0)] [(.ref r)])) rfl (by rw [hml]; rfl) (Steps.refl _) (argsL := []) (rest := []) (lenOf pd_1 rfl) rfl (by show 2 * 0 + _ ≤ _; exact Nat.le_of_eq rfl) (hb hby at_31) (fun vmx hWx => ⟨rfl, Kq31, (by decide : 0 + 0 ≤ _), (by decide : 0 + 0 ≤ _)⟩)
      dsimp only [Pt.U, Pt.locs, Pt.cells, Pt.slots] at X38 l38 y38 z38 st38 hQ38
      subst l38 y38 z38
      obtain ⟨rv38, Nq38, Kq38⟩ := hQ38
      subst rv38
      have N38 := Fr.app N31 Nq38
      obtain ⟨fs, hrL, hrun, hended, hW, hsame⟩ := X38.leave (v := some (.int 1)) (fun h => by rw [Bd.returns] at h; cases h)
      refine ⟨_, _, pre35 _ ?_, hrun, hended, _, _, rfl, ?_, ⟨_, rfl⟩, hW, hsame.mono (by decide) (by decide)⟩
      · show Steps p.tables e below (T31.setTop (mkF m 21 #[.val (.int i0), .val (.int ((i0 &&& (2147483647 : Int32)) % (11 : Int32))), .val (.ref r), .unset] [(.int 7), (.int ((i0 &&& (2147483647 : Int32)) % (11 : Int32)))])) _
        refine XS.icmpYes X31.here hx rfl (pc0 := 21) (pc' := 28) rfl (hb hby at_21) rfl (feq hc36).2 (by decide) (by decide) ?_
        show Steps p.tables e below (T31.setTop (mkF m 28 #[.val (.int i0), .val (.int ((i0 &&& (2147483647 : Int32)) % (11 : Int32))), .val (.ref r), .unset] [])) _
        refine XS.iconst X31.here hx rfl (hb hby at_28) ?_
        refine XS.istoreN X31.here hx rfl (hb hby at_29) rfl (l' := #[.val (.int i0), .val (.int ((i0 &&& (2147483647 : Int32)) % (11 : Int32))), .val (.ref r), .val (.int 0)]) rfl ?_
        refine XS.aloadN X31.here hx rfl (hb hby at_30) rfl rfl ?_
        show Steps p.tables e below (T31.setTop (mkF m 31 #[.val (.int i0), .val (.int ((i0 &&& (2147483647 : Int32)) % (11 : Int32))), .val (.ref r), .val (.int 0)] [(.ref r)])) _
        refine st38.trans ?_
        show Steps p.tables e below (T38.setTop (mkF m 34 #[.val (.int i0), .val (.int ((i0 &&& (2147483647 : Int32)) % (11 : Int32))), .val (.ref r), .val (.int 0)] [(.int rb)])) _
        refine XS.iloadN X38.here hx rfl (hb hby at_34) rfl ?_
        show Steps p.tables e below (T38.setTop (mkF m 35 #[.val (.int i0), .val (.int ((i0 &&& (2147483647 : Int32)) % (11 : Int32))), .val (.ref r), .val (.int 0)] [(.int 0), (.int rb)])) _
        refine XS.icmpNo X38.here hx rfl (hb hby at_35) rfl (teq (he.2.2 hc33 hc36 : rb = (0 : Int32))).2 ?_
        refine XS.iconst X38.here hx rfl (hb hby at_38) ?_
        refine XS.goto X38.here hx rfl (pc0 := 39) (pc' := 43) rfl (hb hby at_39) (by decide) (by decide) ?_
        show Steps p.tables e below (T38.setTop (mkF m 43 #[.val (.int i0), .val (.int ((i0 &&& (2147483647 : Int32)) % (11 : Int32))), .val (.ref r), .val (.int 0)] [(.int 1)])) _
        exact retN X38 hx (t := .boolean) Bd.returns (by simp) (hb hby at_43) hrL
      · show Q_rm0 _ _ _ _ _ _ _ _ _ _ _ _ _ _ _ _ _ _  T38.heap _
        rw [Kq38]
        exact ⟨rfl, N38, rfl⟩
set_option maxRecDepth 65536 in
set_option maxHeartbeats 40000000 in
theorem comes_1 {Post : Tables → Env → Array Value → State → Outcome → State → Prop} (hpost : ∀ tb e args s v u, (limb_1_1.after args s (.returned v) u = true ∧ limb_1_2.after args s (.returned v) u = true ∧ True) → FrameEnd s (.returned v) u (Jvm.fieldLocs frame_1_writes args s ++ Jvm.arrayLocs frame_1_arrays args s ++ Jvm.staticLocs frame_1_statics s) 0 0 → Post tb e args s (.returned v) u) :
    ArmFor flags0 classFile x code maxLocals ret World_1 tables_1 room_1 Calls_1 rest_1 Pre_1 Post := by
  intro l hfl _ _ p e ha hc hk s m args below hf hA hF happ hP
  obtain ⟨hcalls, hrest, hpre⟩ := hP
  obtain ⟨-, -, -, hnamed, -, -, -, hat⟩ := (Spec.applies_iff hf).mp happ
  obtain ⟨hg, hn⟩ := and_e (Cond.before_iff.mp (show (Jvm.Cond.and given_1 narrow_1).before args s = true from hpre))
  obtain ⟨g1, g2⟩ := and_e hg
  obtain ⟨g3, g4⟩ := and_e hn
  obtain ⟨g5, g6⟩ := and_e g4
  obtain ⟨g7, g8⟩ := and_e g6
  obtain ⟨g9, g10⟩ := and_e g8
  obtain ⟨g11, g12⟩ := and_e g10
  obtain ⟨g13, g14⟩ := and_e g12
  obtain ⟨g15, g16⟩ := and_e g14
  obtain ⟨g17, g18⟩ := and_e g16
  obtain ⟨g19, g20⟩ := and_e g18
  obtain ⟨g21, g22⟩ := and_e g20
  obtain ⟨g23, g24⟩ := and_e g22
  obtain ⟨g25, g26⟩ := and_e g24
  obtain ⟨g27, g28⟩ := and_e g26
  obtain ⟨g29, g30⟩ := and_e g28
  obtain ⟨g31, g32⟩ := and_e g30
  obtain ⟨g33, g34⟩ := and_e g32
  obtain ⟨g35, g36⟩ := and_e g34
  obtain ⟨g37, g38⟩ := and_e g36
  obtain ⟨g39, g40⟩ := and_e g38
  obtain ⟨g41, g42⟩ := and_e g40
  obtain ⟨g43, g44⟩ := and_e g42
  obtain ⟨w0, rfl⟩ : ∃ w0 : Value, args = #[w0] := by
    have hs : args.size = 1 := by simpa [Cond.value, given_1] using g1
    obtain ⟨L⟩ := args
    match L, hs with
    | [w0], _ => exact ⟨w0, rfl⟩
  have hw := fun d (hd : d ∈ tables_1) => atoms_spec (ws := Jvm.Cond.code x code maxLocals ret :: tables_1) hat d (List.mem_cons_of_mem _ hd)
  have hfit : Fit s := fun {y c} hc i hi => by
    obtain ⟨ha, rfl⟩ := Array.getElem?_eq_some_iff.mp hc
    have q := List.all_eq_true.mp ((Array.all_eq_true_iff_forall_mem.mp hF) _ (Array.getElem_mem ha)) i (List.mem_range.mpr hi)
    simpa [Array.getElem?_eq_getElem hi] using q
  obtain ⟨i0, ei0⟩ := is_v g2
  obtain rfl : w0 = (.int i0) := Option.some.inj ei0
  obtain ⟨a_PTS, ev_a_PTS⟩ := exa_v g3
  have E_a_PTS : Exa s s.heap a_PTS "com/example/ledgerline/ledgerline/SettlementField" := Exa.start ev_a_PTS g3
  have S_a_PTS : Sta s s.heap "com/example/ledgerline/ledgerline/SettlementField" "PTS" "Lcom/example/ledgerline/ledgerline/SettlementField;" (.ref a_PTS) := Sta.start ev_a_PTS (Or.inr ⟨(hw _ (List.mem_of_getElem? (i := 6) rfl)), (hw _ (List.mem_of_getElem? (i := 7) rfl))⟩)
  obtain ⟨a_SETTLEMENT_VERSION, ev_a_SETTLEMENT_VERSION⟩ := exa_v g5
  have E_a_SETTLEMENT_VERSION : Exa s s.heap a_SETTLEMENT_VERSION "com/example/ledgerline/ledgerline/SettlementField" := Exa.start ev_a_SETTLEMENT_VERSION g5
  have S_a_SETTLEMENT_VERSION : Sta s s.heap "com/example/ledgerline/ledgerline/SettlementField" "SETTLEMENT_VERSION" "Lcom/example/ledgerline/ledgerline/SettlementField;" (.ref a_SETTLEMENT_VERSION) := Sta.start ev_a_SETTLEMENT_VERSION (Or.inr ⟨(hw _ (List.mem_of_getElem? (i := 6) rfl)), (hw _ (List.mem_of_getElem? (i := 14) rfl))⟩)
  obtain ⟨a_AMOUNT, ev_a_AMOUNT⟩ := exa_v g11
  have E_a_AMOUNT : Exa s s.heap a_AMOUNT "com/example/ledgerline/ledgerline/SettlementField" := Exa.start ev_a_AMOUNT g11
  have S_a_AMOUNT : Sta s s.heap "com/example/ledgerline/ledgerline/SettlementField" "AMOUNT" "Lcom/example/ledgerline/ledgerline/SettlementField;" (.ref a_AMOUNT) := Sta.start ev_a_AMOUNT (Or.inr ⟨(hw _ (List.mem_of_getElem? (i := 6) rfl)), (hw _ (List.mem_of_getElem? (i := 16) rfl))⟩)
  obtain ⟨a_DIRECTION, ev_a_DIRECTION⟩ := exa_v g15
  have E_a_DIRECTION : Exa s s.heap a_DIRECTION "com/example/ledgerline/ledgerline/SettlementField" := Exa.start ev_a_DIRECTION g15
  have S_a_DIRECTION : Sta s s.heap "com/example/ledgerline/ledgerline/SettlementField" "DIRECTION" "Lcom/example/ledgerline/ledgerline/SettlementField;" (.ref a_DIRECTION) := Sta.start ev_a_DIRECTION (Or.inr ⟨(hw _ (List.mem_of_getElem? (i := 6) rfl)), (hw _ (List.mem_of_getElem? (i := 20) rfl))⟩)
  obtain ⟨a_SETTLEMENT_ID, ev_a_SETTLEMENT_ID⟩ := exa_v g19
  have E_a_SETTLEMENT_ID : Exa s s.heap a_SETTLEMENT_ID "com/example/ledgerline/ledgerline/SettlementField" := Exa.start ev_a_SETTLEMENT_ID g19
  have S_a_SETTLEMENT_ID : Sta s s.heap "com/example/ledgerline/ledgerline/SettlementField" "SETTLEMENT_ID" "Lcom/example/ledgerline/ledgerline/SettlementField;" (.ref a_SETTLEMENT_ID) := Sta.start ev_a_SETTLEMENT_ID (Or.inr ⟨(hw _ (List.mem_of_getElem? (i := 6) rfl)), (hw _ (List.mem_of_getElem? (i := 22) rfl))⟩)
  obtain ⟨a_BUSINESS_STATUS, ev_a_BUSINESS_STATUS⟩ := exa_v g23
  have E_a_BUSINESS_STATUS : Exa s s.heap a_BUSINESS_STATUS "com/example/ledgerline/ledgerline/SettlementField" := Exa.start ev_a_BUSINESS_STATUS g23
  have S_a_BUSINESS_STATUS : Sta s s.heap "com/example/ledgerline/ledgerline/SettlementField" "BUSINESS_STATUS" "Lcom/example/ledgerline/ledgerline/SettlementField;" (.ref a_BUSINESS_STATUS) := Sta.start ev_a_BUSINESS_STATUS (Or.inr ⟨(hw _ (List.mem_of_getElem? (i := 6) rfl)), (hw _ (List.mem_of_getElem? (i := 24) rfl))⟩)
  obtain ⟨a_PROCESSING_ENTITY, ev_a_PROCESSING_ENTITY⟩ := exa_v g27
  have E_a_PROCESSING_ENTITY : Exa s s.heap a_PROCESSING_ENTITY "com/example/ledgerline/ledgerline/SettlementField" := Exa.start ev_a_PROCESSING_ENTITY g27
  have S_a_PROCESSING_ENTITY : Sta s s.heap "com/example/ledgerline/ledgerline/SettlementField" "PROCESSING_ENTITY" "Lcom/example/ledgerline/ledgerline/SettlementField;" (.ref a_PROCESSING_ENTITY) := Sta.start ev_a_PROCESSING_ENTITY (Or.inr ⟨(hw _ (List.mem_of_getElem? (i := 6) rfl)), (hw _ (List.mem_of_getElem? (i := 26) rfl))⟩)
  obtain ⟨a_GROSS_NET, ev_a_GROSS_NET⟩ := exa_v g31
  have E_a_GROSS_NET : Exa s s.heap a_GROSS_NET "com/example/ledgerline/ledgerline/SettlementField" := Exa.start ev_a_GROSS_NET g31
  have S_a_GROSS_NET : Sta s s.heap "com/example/ledgerline/ledgerline/SettlementField" "GROSS_NET" "Lcom/example/ledgerline/ledgerline/SettlementField;" (.ref a_GROSS_NET) := Sta.start ev_a_GROSS_NET (Or.inr ⟨(hw _ (List.mem_of_getElem? (i := 6) rfl)), (hw _ (List.mem_of_getElem? (i := 28) rfl))⟩)
  obtain ⟨a_VALUE_DATE, ev_a_VALUE_DATE⟩ := exa_v g35
  have E_a_VALUE_DATE : Exa s s.heap a_VALUE_DATE "com/example/ledgerline/ledgerline/SettlementField" := Exa.start ev_a_VALUE_DATE g35
  have S_a_VALUE_DATE : Sta s s.heap "com/example/ledgerline/ledgerline/SettlementField" "VALUE_DATE" "Lcom/example/ledgerline/ledgerline/SettlementField;" (.ref a_VALUE_DATE) := Sta.start ev_a_VALUE_DATE (Or.inr ⟨(hw _ (List.mem_of_getElem? (i := 6) rfl)), (hw _ (List.mem_of_getElem? (i := 30) rfl))⟩)
  obtain ⟨a_CURRENCY, ev_a_CURRENCY⟩ := exa_v g39
  have E_a_CURRENCY : Exa s s.heap a_CURRENCY "com/example/ledgerline/ledgerline/SettlementField" := Exa.start ev_a_CURRENCY g39
  have S_a_CURRENCY : Sta s s.heap "com/example/ledgerline/ledgerline/SettlementField" "CURRENCY" "Lcom/example/ledgerline/ledgerline/SettlementField;" (.ref a_CURRENCY) := Sta.start ev_a_CURRENCY (Or.inr ⟨(hw _ (List.mem_of_getElem? (i := 6) rfl)), (hw _ (List.mem_of_getElem? (i := 32) rfl))⟩)
  obtain ⟨a_COUNTERPARTY_ID, ev_a_COUNTERPARTY_ID⟩ := exa_v g43
  have E_a_COUNTERPARTY_ID : Exa s s.heap a_COUNTERPARTY_ID "com/example/ledgerline/ledgerline/SettlementField" := Exa.start ev_a_COUNTERPARTY_ID g43
  have S_a_COUNTERPARTY_ID : Sta s s.heap "com/example/ledgerline/ledgerline/SettlementField" "COUNTERPARTY_ID" "Lcom/example/ledgerline/ledgerline/SettlementField;" (.ref a_COUNTERPARTY_ID) := Sta.start ev_a_COUNTERPARTY_ID (Or.inr ⟨(hw _ (List.mem_of_getElem? (i := 6) rfl)), (hw _ (List.mem_of_getElem? (i := 34) rfl))⟩)
  have F_a_PTS_ordinal : Fld s s.heap a_PTS "java/lang/Enum" "ordinal" "I" (.int (0 : Int32)) := Fld.start ((fld_at ev_a_PTS).symm.trans (own_eqi g7))
  have F_a_SETTLEMENT_VERSION_ordinal : Fld s s.heap a_SETTLEMENT_VERSION "java/lang/Enum" "ordinal" "I" (.int (3 : Int32)) := Fld.start ((fld_at ev_a_SETTLEMENT_VERSION).symm.trans (own_eqi g9))
  have F_a_AMOUNT_ordinal : Fld s s.heap a_AMOUNT "java/lang/Enum" "ordinal" "I" (.int (7 : Int32)) := Fld.start ((fld_at ev_a_AMOUNT).symm.trans (own_eqi g13))
  have F_a_DIRECTION_ordinal : Fld s s.heap a_DIRECTION "java/lang/Enum" "ordinal" "I" (.int (8 : Int32)) := Fld.start ((fld_at ev_a_DIRECTION).symm.trans (own_eqi g17))
  have F_a_SETTLEMENT_ID_ordinal : Fld s s.heap a_SETTLEMENT_ID "java/lang/Enum" "ordinal" "I" (.int (2 : Int32)) := Fld.start ((fld_at ev_a_SETTLEMENT_ID).symm.trans (own_eqi g21))
  have F_a_BUSINESS_STATUS_ordinal : Fld s s.heap a_BUSINESS_STATUS "java/lang/Enum" "ordinal" "I" (.int (10 : Int32)) := Fld.start ((fld_at ev_a_BUSINESS_STATUS).symm.trans (own_eqi g25))
  have F_a_PROCESSING_ENTITY_ordinal : Fld s s.heap a_PROCESSING_ENTITY "java/lang/Enum" "ordinal" "I" (.int (1 : Int32)) := Fld.start ((fld_at ev_a_PROCESSING_ENTITY).symm.trans (own_eqi g29))
  have F_a_GROSS_NET_ordinal : Fld s s.heap a_GROSS_NET "java/lang/Enum" "ordinal" "I" (.int (9 : Int32)) := Fld.start ((fld_at ev_a_GROSS_NET).symm.trans (own_eqi g33))
  have F_a_VALUE_DATE_ordinal : Fld s s.heap a_VALUE_DATE "java/lang/Enum" "ordinal" "I" (.int (5 : Int32)) := Fld.start ((fld_at ev_a_VALUE_DATE).symm.trans (own_eqi g37))
  have F_a_CURRENCY_ordinal : Fld s s.heap a_CURRENCY "java/lang/Enum" "ordinal" "I" (.int (6 : Int32)) := Fld.start ((fld_at ev_a_CURRENCY).symm.trans (own_eqi g41))
  have F_a_COUNTERPARTY_ID_ordinal : Fld s s.heap a_COUNTERPARTY_ID "java/lang/Enum" "ordinal" "I" (.int (4 : Int32)) := Fld.start ((fld_at ev_a_COUNTERPARTY_ID).symm.trans (own_eqi g44))
  obtain ⟨K, hK⟩ : ∃ K, K = ((i0 &&& (2147483647 : Int32)) % (11 : Int32)) := ⟨_, rfl⟩
  have key : ∃ (r : Addr) (rb : Int32), Exa s s.heap r "com/example/ledgerline/ledgerline/SettlementField" ∧ ((K = (0 : Int32) → r = a_PTS) ∧ (K = (1 : Int32) → r = a_PROCESSING_ENTITY) ∧ (K = (2 : Int32) → r = a_SETTLEMENT_ID) ∧ (K = (3 : Int32) → r = a_SETTLEMENT_VERSION) ∧ (K = (4 : Int32) → r = a_COUNTERPARTY_ID) ∧ (K = (5 : Int32) → r = a_VALUE_DATE) ∧ (K = (6 : Int32) → r = a_CURRENCY) ∧ (K = (7 : Int32) → r = a_AMOUNT) ∧ (K = (8 : Int32) → r = a_DIRECTION) ∧ (K = (9 : Int32) → r = a_GROSS_NET) ∧ (¬ (K = (0 : Int32)) → ¬ (K = (1 : Int32)) → ¬ (K = (2 : Int32)) → ¬ (K = (3 : Int32)) → ¬ (K = (4 : Int32)) → ¬ (K = (5 : Int32)) → ¬ (K = (6 : Int32)) → ¬ (K = (7 : Int32)) → ¬ (K = (8 : Int32)) → ¬ (K = (9 : Int32)) → r = a_BUSINESS_STATUS)) ∧ ((r = a_SETTLEMENT_VERSION → rb = (1 : Int32)) ∧ (r = a_AMOUNT → rb = (1 : Int32)) ∧ (¬ (r = a_SETTLEMENT_VERSION) → ¬ (r = a_AMOUNT) → rb = (0 : Int32))) ∧ ((K = (3 : Int32) → rb = (1 : Int32)) ∧ (K = (7 : Int32) → rb = (1 : Int32)) ∧ (¬ (K = (3 : Int32)) → ¬ (K = (7 : Int32)) → rb = (0 : Int32))) := by
    by_cases c0 : K = (0 : Int32)
    · exact ⟨a_PTS, (0 : Int32), E_a_PTS, ⟨fun _ => rfl, fun h => absurd (c0.symm.trans h) (by decide), fun h => absurd (c0.symm.trans h) (by decide), fun h => absurd (c0.symm.trans h) (by decide), fun h => absurd (c0.symm.trans h) (by decide), fun h => absurd (c0.symm.trans h) (by decide), fun h => absurd (c0.symm.trans h) (by decide), fun h => absurd (c0.symm.trans h) (by decide), fun h => absurd (c0.symm.trans h) (by decide), fun h => absurd (c0.symm.trans h) (by decide), fun h0 h1 h2 h3 h4 h5 h6 h7 h8 h9 => absurd c0 h0⟩, ⟨fun h => absurd h (Fld.ne F_a_PTS_ordinal F_a_SETTLEMENT_VERSION_ordinal (by decide)), fun h => absurd h (Fld.ne F_a_PTS_ordinal F_a_AMOUNT_ordinal (by decide)), fun _ _ => rfl⟩, ⟨fun h => absurd (c0.symm.trans h) (by decide), fun h => absurd (c0.symm.trans h) (by decide), fun _ _ => rfl⟩⟩
    by_cases c1 : K = (1 : Int32)
    · exact ⟨a_PROCESSING_ENTITY, (0 : Int32), E_a_PROCESSING_ENTITY, ⟨fun h => absurd (c1.symm.trans h) (by decide), fun _ => rfl, fun h => absurd (c1.symm.trans h) (by decide), fun h => absurd (c1.symm.trans h) (by decide), fun h => absurd (c1.symm.trans h) (by decide), fun h => absurd (c1.symm.trans h) (by decide), fun h => absurd (c1.symm.trans h) (by decide), fun h => absurd (c1.symm.trans h) (by decide), fun h => absurd (c1.symm.trans h) (by decide), fun h => absurd (c1.symm.trans h) (by decide), fun h0 h1 h2 h3 h4 h5 h6 h7 h8 h9 => absurd c1 h1⟩, ⟨fun h => absurd h (Fld.ne F_a_PROCESSING_ENTITY_ordinal F_a_SETTLEMENT_VERSION_ordinal (by decide)), fun h => absurd h (Fld.ne F_a_PROCESSING_ENTITY_ordinal F_a_AMOUNT_ordinal (by decide)), fun _ _ => rfl⟩, ⟨fun h => absurd (c1.symm.trans h) (by decide), fun h => absurd (c1.symm.trans h) (by decide), fun _ _ => rfl⟩⟩
    by_cases c2 : K = (2 : Int32)
    · exact ⟨a_SETTLEMENT_ID, (0 : Int32), E_a_SETTLEMENT_ID, ⟨fun h => absurd (c2.symm.trans h) (by decide), fun h => absurd (c2.symm.trans h) (by decide), fun _ => rfl, fun h => absurd (c2.symm.trans h) (by decide), fun h => absurd (c2.symm.trans h) (by decide), fun h => absurd (c2.symm.trans h) (by decide), fun h => absurd (c2.symm.trans h) (by decide), fun h => absurd (c2.symm.trans h) (by decide), fun h => absurd (c2.symm.trans h) (by decide), fun h => absurd (c2.symm.trans h) (by decide), fun h0 h1 h2 h3 h4 h5 h6 h7 h8 h9 => absurd c2 h2⟩, ⟨fun h => absurd h (Fld.ne F_a_SETTLEMENT_ID_ordinal F_a_SETTLEMENT_VERSION_ordinal (by decide)), fun h => absurd h (Fld.ne F_a_SETTLEMENT_ID_ordinal F_a_AMOUNT_ordinal (by decide)), fun _ _ => rfl⟩, ⟨fun h => absurd (c2.symm.trans h) (by decide), fun h => absurd (c2.symm.trans h) (by decide), fun _ _ => rfl⟩⟩
    by_cases c3 : K = (3 : Int32)
    · exact ⟨a_SETTLEMENT_VERSION, (1 : Int32), E_a_SETTLEMENT_VERSION, ⟨fun h => absurd (c3.symm.trans h) (by decide), fun h => absurd (c3.symm.trans h) (by decide), fun h => absurd (c3.symm.trans h) (by decide), fun _ => rfl, fun h => absurd (c3.symm.trans h) (by decide), fun h => absurd (c3.symm.trans h) (by decide), fun h => absurd (c3.symm.trans h) (by decide), fun h => absurd (c3.symm.trans h) (by decide), fun h => absurd (c3.symm.trans h) (by decide), fun h => absurd (c3.symm.trans h) (by decide), fun h0 h1 h2 h3 h4 h5 h6 h7 h8 h9 => absurd c3 h3⟩, ⟨fun _ => rfl, fun _ => rfl, fun h1 h2 => absurd rfl h1⟩, ⟨fun _ => rfl, fun _ => rfl, fun h1 h2 => absurd c3 h1⟩⟩
    by_cases c4 : K = (4 : Int32)
    · exact ⟨a_COUNTERPARTY_ID, (0 : Int32), E_a_COUNTERPARTY_ID, ⟨fun h => absurd (c4.symm.trans h) (by decide), fun h => absurd (c4.symm.trans h) (by decide), fun h => absurd (c4.symm.trans h) (by decide), fun h => absurd (c4.symm.trans h) (by decide), fun _ => rfl, fun h => absurd (c4.symm.trans h) (by decide), fun h => absurd (c4.symm.trans h) (by decide), fun h => absurd (c4.symm.trans h) (by decide), fun h => absurd (c4.symm.trans h) (by decide), fun h => absurd (c4.symm.trans h) (by decide), fun h0 h1 h2 h3 h4 h5 h6 h7 h8 h9 => absurd c4 h4⟩, ⟨fun h => absurd h (Fld.ne F_a_COUNTERPARTY_ID_ordinal F_a_SETTLEMENT_VERSION_ordinal (by decide)), fun h => absurd h (Fld.ne F_a_COUNTERPARTY_ID_ordinal F_a_AMOUNT_ordinal (by decide)), fun _ _ => rfl⟩, ⟨fun h => absurd (c4.symm.trans h) (by decide), fun h => absurd (c4.symm.trans h) (by decide), fun _ _ => rfl⟩⟩
    by_cases c5 : K = (5 : Int32)
    · exact ⟨a_VALUE_DATE, (0 : Int32), E_a_VALUE_DATE, ⟨fun h => absurd (c5.symm.trans h) (by decide), fun h => absurd (c5.symm.trans h) (by decide), fun h => absurd (c5.symm.trans h) (by decide), fun h => absurd (c5.symm.trans h) (by decide), fun h => absurd (c5.symm.trans h) (by decide), fun _ => rfl, fun h => absurd (c5.symm.trans h) (by decide), fun h => absurd (c5.symm.trans h) (by decide), fun h => absurd (c5.symm.trans h) (by decide), fun h => absurd (c5.symm.trans h) (by decide), fun h0 h1 h2 h3 h4 h5 h6 h7 h8 h9 => absurd c5 h5⟩, ⟨fun h => absurd h (Fld.ne F_a_VALUE_DATE_ordinal F_a_SETTLEMENT_VERSION_ordinal (by decide)), fun h => absurd h (Fld.ne F_a_VALUE_DATE_ordinal F_a_AMOUNT_ordinal (by decide)), fun _ _ => rfl⟩, ⟨fun h => absurd (c5.symm.trans h) (by decide), fun h => absurd (c5.symm.trans h) (by decide), fun _ _ => rfl⟩⟩
    by_cases c6 : K = (6 : Int32)
    · exact ⟨a_CURRENCY, (0 : Int32), E_a_CURRENCY, ⟨fun h => absurd (c6.symm.trans h) (by decide), fun h => absurd (c6.symm.trans h) (by decide), fun h => absurd (c6.symm.trans h) (by decide), fun h => absurd (c6.symm.trans h) (by decide), fun h => absurd (c6.symm.trans h) (by decide), fun h => absurd (c6.symm.trans h) (by decide), fun _ => rfl, fun h => absurd (c6.symm.trans h) (by decide), fun h => absurd (c6.symm.trans h) (by decide), fun h => absurd (c6.symm.trans h) (by decide), fun h0 h1 h2 h3 h4 h5 h6 h7 h8 h9 => absurd c6 h6⟩, ⟨fun h => absurd h (Fld.ne F_a_CURRENCY_ordinal F_a_SETTLEMENT_VERSION_ordinal (by decide)), fun h => absurd h (Fld.ne F_a_CURRENCY_ordinal F_a_AMOUNT_ordinal (by decide)), fun _ _ => rfl⟩, ⟨fun h => absurd (c6.symm.trans h) (by decide), fun h => absurd (c6.symm.trans h) (by decide), fun _ _ => rfl⟩⟩
    by_cases c7 : K = (7 : Int32)
    · exact ⟨a_AMOUNT, (1 : Int32), E_a_AMOUNT, ⟨fun h => absurd (c7.symm.trans h) (by decide), fun h => absurd (c7.symm.trans h) (by decide), fun h => absurd (c7.symm.trans h) (by decide), fun h => absurd (c7.symm.trans h) (by decide), fun h => absurd (c7.symm.trans h) (by decide), fun h => absurd (c7.symm.trans h) (by decide), fun h => absurd (c7.symm.trans h) (by decide), fun _ => rfl, fun h => absurd (c7.symm.trans h) (by decide), fun h => absurd (c7.symm.trans h) (by decide), fun h0 h1 h2 h3 h4 h5 h6 h7 h8 h9 => absurd c7 h7⟩, ⟨fun _ => rfl, fun _ => rfl, fun h1 h2 => absurd rfl h2⟩, ⟨fun _ => rfl, fun _ => rfl, fun h1 h2 => absurd c7 h2⟩⟩
    by_cases c8 : K = (8 : Int32)
    · exact ⟨a_DIRECTION, (0 : Int32), E_a_DIRECTION, ⟨fun h => absurd (c8.symm.trans h) (by decide), fun h => absurd (c8.symm.trans h) (by decide), fun h => absurd (c8.symm.trans h) (by decide), fun h => absurd (c8.symm.trans h) (by decide), fun h => absurd (c8.symm.trans h) (by decide), fun h => absurd (c8.symm.trans h) (by decide), fun h => absurd (c8.symm.trans h) (by decide), fun h => absurd (c8.symm.trans h) (by decide), fun _ => rfl, fun h => absurd (c8.symm.trans h) (by decide), fun h0 h1 h2 h3 h4 h5 h6 h7 h8 h9 => absurd c8 h8⟩, ⟨fun h => absurd h (Fld.ne F_a_DIRECTION_ordinal F_a_SETTLEMENT_VERSION_ordinal (by decide)), fun h => absurd h (Fld.ne F_a_DIRECTION_ordinal F_a_AMOUNT_ordinal (by decide)), fun _ _ => rfl⟩, ⟨fun h => absurd (c8.symm.trans h) (by decide), fun h => absurd (c8.symm.trans h) (by decide), fun _ _ => rfl⟩⟩
    by_cases c9 : K = (9 : Int32)
    · exact ⟨a_GROSS_NET, (0 : Int32), E_a_GROSS_NET, ⟨fun h => absurd (c9.symm.trans h) (by decide), fun h => absurd (c9.symm.trans h) (by decide), fun h => absurd (c9.symm.trans h) (by decide), fun h => absurd (c9.symm.trans h) (by decide), fun h => absurd (c9.symm.trans h) (by decide), fun h => absurd (c9.symm.trans h) (by decide), fun h => absurd (c9.symm.trans h) (by decide), fun h => absurd (c9.symm.trans h) (by decide), fun h => absurd (c9.symm.trans h) (by decide), fun _ => rfl, fun h0 h1 h2 h3 h4 h5 h6 h7 h8 h9 => absurd c9 h9⟩, ⟨fun h => absurd h (Fld.ne F_a_GROSS_NET_ordinal F_a_SETTLEMENT_VERSION_ordinal (by decide)), fun h => absurd h (Fld.ne F_a_GROSS_NET_ordinal F_a_AMOUNT_ordinal (by decide)), fun _ _ => rfl⟩, ⟨fun h => absurd (c9.symm.trans h) (by decide), fun h => absurd (c9.symm.trans h) (by decide), fun _ _ => rfl⟩⟩
    exact ⟨a_BUSINESS_STATUS, (0 : Int32), E_a_BUSINESS_STATUS, ⟨fun h => absurd h c0, fun h => absurd h c1, fun h => absurd h c2, fun h => absurd h c3, fun h => absurd h c4, fun h => absurd h c5, fun h => absurd h c6, fun h => absurd h c7, fun h => absurd h c8, fun h => absurd h c9, fun _ _ _ _ _ _ _ _ _ _ => rfl⟩, ⟨fun h => absurd h (Fld.ne F_a_BUSINESS_STATUS_ordinal F_a_SETTLEMENT_VERSION_ordinal (by decide)), fun h => absurd h (Fld.ne F_a_BUSINESS_STATUS_ordinal F_a_AMOUNT_ordinal (by decide)), fun _ _ => rfl⟩, ⟨fun h => absurd h c3, fun h => absurd h c7, fun _ _ => rfl⟩⟩
  obtain ⟨r, rb, Er, hr, hv, he⟩ := key
  subst hK
  obtain ⟨n, o, h1, h2, h3, _, L, rfl, ⟨rfl, N, -⟩, hq⟩ := rm0 l s _ hw tables_1 i0 a_PTS a_PROCESSING_ENTITY a_SETTLEMENT_ID a_SETTLEMENT_VERSION a_COUNTERPARTY_ID a_VALUE_DATE a_CURRENCY a_AMOUNT a_DIRECTION a_GROSS_NET a_BUSINESS_STATUS r rb s.heap s.heap.size (Nat.le_refl _) (Old.start s) S_a_PTS S_a_PROCESSING_ENTITY S_a_SETTLEMENT_ID S_a_SETTLEMENT_VERSION S_a_COUNTERPARTY_ID S_a_VALUE_DATE S_a_CURRENCY S_a_AMOUNT S_a_DIRECTION S_a_GROSS_NET S_a_BUSINESS_STATUS Er hr hv he p e ha hc hk s m _ below hf ((Spec.applies_iff_loose hf).mp happ).1 ⟨rfl, State.Warmed39.refl s, rfl⟩ trivial
  refine ⟨n, _, h1, h2, h3, hpost _ _ _ _ _ _ ⟨Cond.after_iff.mpr rfl, Cond.after_iff.mpr (eq_i res_at (Term.int_eval (1)) rfl), trivial⟩ ⟨hq.1, hq.2.1, (hq.2.2.sift fun y hy => Or.inr (N y hy)).mono (by decide) (by decide)⟩⟩
theorem main_1_1 : Claimed_1_1 := comes_1 fun _ _ _ _ _ _ h hF => ⟨h.1, hF⟩
theorem main_1_2 : Claimed_1_2 := comes_1 fun _ _ _ _ _ _ h hF => ⟨h.2.1, hF⟩
end Jvm.Pilot.@@N@@
namespace Jvm.Pilot.@@N@@
open Jvm Jvm.ClassFile Sem Op Lib Jvm.Free Jvm.Stand Jvm.Pilot.@@N@@.Jvm.D
/-! MADE BY PROGRAM (witnessworld.py) out of the Statement's table words and the real class files: 12 classes; the members and pool entries that the words name. The judged class is class 1, her method 2. -/
namespace start1
open Jvm.ClassFile
def u (s : String) : CpInfo := .utf8 (stringToUtf16 s)
/-- a pool by its gaps: so many unusable entries, then the entry; so many at the end -/
def gap : Nat → List CpInfo → List CpInfo
  | 0, r => r
  | n + 1, r => .unusable :: gap n r
def poolList (es : List (Nat × CpInfo)) (last : Nat) : List CpInfo := es.foldr (fun e r => gap e.1 (e.2 :: r)) (gap last [])
def pool (es : List (Nat × CpInfo)) (last : Nat) : Array CpInfo := ⟨poolList es last⟩
def fileOf (pool : Array CpInfo) (this : Nat) (attrs : Array Attribute := #[]) (ms : Array MethodInfo := #[]) (fl : Nat := 33) (sup : Nat := 0) (ifs : Array Nat := #[]) (fds : Array FieldInfo := #[]) : ClassFile where
  minorVersion := 0
  majorVersion := 65
  constantPool := pool
  accessFlags := fl
  thisClass := this
  superClass := sup
  interfaces := ifs
  fields := fds
  methods := ms
  attributes := attrs
def plain (name : String) (sup : Option ClassId) : Class where
  name := name
  kind := .ordinary
  loader := none
  accessFlags := 33
  super := sup
  interfaces := #[]
  cf := none
  fields := #[]
  methods := #[]
  instanceTypes := #[]
  staticTypes := #[]
  resolved := #[]
  callSites := []
  init := .initialized
  statics := none
  mirror := none

def pool0 : Array CpInfo := pool [(5, u "<init>"), (0, u "()V"), (1, .class_ 10), (1, u "java/lang/Object")] 113

def k0m0 : Method := { name := "<init>", desc := "()V", sig := { parameters := [], returnType := none }, accessFlags := 1, code := none }
/-- java/lang/Object -/
def k0 : Class := { plain "java/lang/Object" none with
  accessFlags := 33
  interfaces := #[]
  cf := some (fileOf pool0 8 #[] #[{ accessFlags := 1, nameIndex := 5, descriptorIndex := 6, attributes := #[] }] 33 0 #[] #[])
  fields := #[]
  methods := #[k0m0]
  instanceTypes := #[]
  staticTypes := #[]
  resolved := Array.replicate 124 none
  statics := none }

def pool1 : Array CpInfo := pool [(2, .class_ 4), (1, u "java/lang/Object"), (0, u "<init>"), (0, u "()V"), (0, .fieldref 8 9), (0, .class_ 10), (0, .nameAndType 11 12), (0, u "com/example/ledgerline/ledgerline/SettlementField"), (0, u "PTS"), (0, u "Lcom/example/ledgerline/ledgerline/SettlementField;"), (0, .fieldref 8 14), (0, .nameAndType 15 12), (0, u "PROCESSING_ENTITY"), (0, .fieldref 8 17), (0, .nameAndType 18 12), (0, u "SETTLEMENT_ID"), (0, .fieldref 8 20), (0, .nameAndType 21 12), (0, u "SETTLEMENT_VERSION"), (0, .fieldref 8 23), (0, .nameAndType 24 12), (0, u "COUNTERPARTY_ID"), (0, .fieldref 8 26), (0, .nameAndType 27 12), (0, u "VALUE_DATE"), (0, .fieldref 8 29), (0, .nameAndType 30 12), (0, u "CURRENCY"), (0, .fieldref 8 32), (0, .nameAndType 33 12), (0, u "AMOUNT"), (0, .fieldref 8 35), (0, .nameAndType 36 12), (0, u "DIRECTION"), (0, .fieldref 8 38), (0, .nameAndType 39 12), (0, u "GROSS_NET"), (0, .fieldref 8 41), (0, .nameAndType 42 12), (0, u "BUSINESS_STATUS"), (0, .integer 2147483647), (0, .methodref 45 46), (0, .class_ 47), (0, .nameAndType 48 49), (0, u "com/example/ledgerline/ledgerline/SettlementFieldNumericPinLaw"), (0, u "pick"), (0, u "(I)Lcom/example/ledgerline/ledgerline/SettlementField;"), (0, .methodref 8 51), (0, .nameAndType 52 53), (0, u "numeric"), (0, u "()Z"), (3, u "law"), (0, u "(I)Z")] 2

def k1m0 : Method := { name := "<init>", desc := "()V", sig := { parameters := [], returnType := none }, accessFlags := 1, code := none }
def k1c1 : Code := { maxStack := 2, maxLocals := 1, code := method_2_code, exceptionTable := #[], attributes := #[] }
def k1m1 : Method := { name := "pick", desc := "(I)Lcom/example/ledgerline/ledgerline/SettlementField;", sig := { parameters := [.int], returnType := some (.object "com/example/ledgerline/ledgerline/SettlementField") }, accessFlags := 10, code := some k1c1 }
def k1c2 : Code := { maxStack := 2, maxLocals := 4, code := code, exceptionTable := #[], attributes := #[] }
def k1m2 : Method := { name := "law", desc := "(I)Z", sig := { parameters := [.int], returnType := some .boolean }, accessFlags := 9, code := some k1c2 }
/-- com/example/ledgerline/ledgerline/SettlementFieldNumericPinLaw -/
def k1 : Class := { plain "com/example/ledgerline/ledgerline/SettlementFieldNumericPinLaw" (some 0) with
  accessFlags := 49
  interfaces := #[]
  cf := some (fileOf pool1 45 #[] #[{ accessFlags := 1, nameIndex := 5, descriptorIndex := 6, attributes := #[] }, { accessFlags := 10, nameIndex := 48, descriptorIndex := 49, attributes := #[] }, { accessFlags := 9, nameIndex := 57, descriptorIndex := 58, attributes := #[] }] 49 2 #[] #[])
  fields := #[]
  methods := #[k1m0, k1m1, k1m2]
  instanceTypes := #[]
  staticTypes := #[]
  resolved := Array.replicate 61 none
  statics := none }

def pool2 : Array CpInfo := pool [(1, .class_ 2), (0, u "java/lang/constant/Constable"), (0, .class_ 4), (0, u "java/lang/Object")] 6

/-- java/lang/constant/Constable -/
def k2 : Class := { plain "java/lang/constant/Constable" (some 0) with
  accessFlags := 1537
  interfaces := #[]
  cf := some (fileOf pool2 1 #[] #[] 1537 3 #[] #[])
  fields := #[]
  methods := #[]
  instanceTypes := #[]
  staticTypes := #[]
  resolved := Array.replicate 11 none
  statics := none }

def pool3 : Array CpInfo := pool [(1, .class_ 2), (0, u "java/lang/Comparable"), (0, .class_ 4), (0, u "java/lang/Object")] 7

/-- java/lang/Comparable -/
def k3 : Class := { plain "java/lang/Comparable" (some 0) with
  accessFlags := 1537
  interfaces := #[]
  cf := some (fileOf pool3 1 #[] #[] 1537 3 #[] #[])
  fields := #[]
  methods := #[]
  instanceTypes := #[]
  staticTypes := #[]
  resolved := Array.replicate 12 none
  statics := none }

def pool4 : Array CpInfo := pool [(1, .class_ 2), (0, u "java/io/Serializable"), (0, .class_ 4), (0, u "java/lang/Object")] 2

/-- java/io/Serializable -/
def k4 : Class := { plain "java/io/Serializable" (some 0) with
  accessFlags := 1537
  interfaces := #[]
  cf := some (fileOf pool4 1 #[] #[] 1537 3 #[] #[])
  fields := #[]
  methods := #[]
  instanceTypes := #[]
  staticTypes := #[]
  resolved := Array.replicate 7 none
  statics := none }

def pool5 : Array CpInfo := pool [(2, .class_ 4), (1, u "java/lang/Enum"), (0, u "name"), (0, u "Ljava/lang/String;"), (2, u "ordinal"), (0, u "I"), (1, .class_ 14), (1, u "java/lang/Object"), (4, u "hash"), (86, .class_ 108), (1, u "java/lang/Enum$EnumDesc"), (2, .class_ 112), (0, u "java/lang/constant/Constable"), (0, .class_ 114), (0, u "java/lang/Comparable"), (0, .class_ 116), (0, u "java/io/Serializable")] 87

/-- java/lang/Enum -/
def k5 : Class := { plain "java/lang/Enum" (some 0) with
  accessFlags := 1057
  interfaces := #[2, 3, 4]
  cf := some (fileOf pool5 2 #[.nestMembers #[106]] #[] 1057 12 #[111, 113, 115] #[{ accessFlags := 18, nameIndex := 5, descriptorIndex := 6, attributes := #[] }, { accessFlags := 18, nameIndex := 9, descriptorIndex := 10, attributes := #[] }, { accessFlags := 2, nameIndex := 19, descriptorIndex := 10, attributes := #[] }])
  fields := #[{ name := "name", type := (.object "java/lang/String"), accessFlags := 18, slot := 0, constantValue := 0 }, { name := "ordinal", type := .int, accessFlags := 18, slot := 1, constantValue := 0 }, { name := "hash", type := .int, accessFlags := 2, slot := 2, constantValue := 0 }]
  methods := #[]
  instanceTypes := #[(.object "java/lang/String"), .int, .int]
  staticTypes := #[]
  resolved := Array.replicate 204 none
  statics := none }

def pool6 : Array CpInfo := pool [(1, .class_ 2), (0, u "com/example/ledgerline/ledgerline/SettlementField"), (2, u "PTS"), (0, u "Lcom/example/ledgerline/ledgerline/SettlementField;"), (2, u "PROCESSING_ENTITY"), (2, u "SETTLEMENT_ID"), (0, .fieldref 1 14), (0, .nameAndType 15 6), (0, u "SETTLEMENT_VERSION"), (2, u "COUNTERPARTY_ID"), (2, u "VALUE_DATE"), (2, u "CURRENCY"), (0, .fieldref 1 26), (0, .nameAndType 27 6), (0, u "AMOUNT"), (2, u "DIRECTION"), (2, u "GROSS_NET"), (2, u "BUSINESS_STATUS"), (2, u "$VALUES"), (0, u "[Lcom/example/ledgerline/ledgerline/SettlementField;"), (6, .class_ 49), (1, u "java/lang/Enum"), (8, u "property"), (0, u "Ljava/lang/String;"), (2, u "column"), (2, u "label"), (105, u "numeric"), (0, u "()Z")] 6

def k6c0 : Code := { maxStack := 2, maxLocals := 1, code := prog_59_method_7_code, exceptionTable := #[], attributes := #[] }
def k6m0 : Method := { name := "numeric", desc := "()Z", sig := { parameters := [], returnType := some .boolean }, accessFlags := 0, code := some k6c0 }
/-- com/example/ledgerline/ledgerline/SettlementField -/
def k6 : Class := { plain "com/example/ledgerline/ledgerline/SettlementField" (some 5) with
  accessFlags := 16432
  interfaces := #[]
  cf := some (fileOf pool6 1 #[] #[{ accessFlags := 0, nameIndex := 171, descriptorIndex := 172, attributes := #[] }] 16432 47 #[] #[{ accessFlags := 16409, nameIndex := 5, descriptorIndex := 6, attributes := #[] }, { accessFlags := 16409, nameIndex := 9, descriptorIndex := 6, attributes := #[] }, { accessFlags := 16409, nameIndex := 12, descriptorIndex := 6, attributes := #[] }, { accessFlags := 16409, nameIndex := 15, descriptorIndex := 6, attributes := #[] }, { accessFlags := 16409, nameIndex := 18, descriptorIndex := 6, attributes := #[] }, { accessFlags := 16409, nameIndex := 21, descriptorIndex := 6, attributes := #[] }, { accessFlags := 16409, nameIndex := 24, descriptorIndex := 6, attributes := #[] }, { accessFlags := 16409, nameIndex := 27, descriptorIndex := 6, attributes := #[] }, { accessFlags := 16409, nameIndex := 30, descriptorIndex := 6, attributes := #[] }, { accessFlags := 16409, nameIndex := 33, descriptorIndex := 6, attributes := #[] }, { accessFlags := 16409, nameIndex := 36, descriptorIndex := 6, attributes := #[] }, { accessFlags := 18, nameIndex := 58, descriptorIndex := 59, attributes := #[] }, { accessFlags := 18, nameIndex := 62, descriptorIndex := 59, attributes := #[] }, { accessFlags := 18, nameIndex := 65, descriptorIndex := 59, attributes := #[] }, { accessFlags := 4122, nameIndex := 39, descriptorIndex := 40, attributes := #[] }])
  fields := #[{ name := "PTS", type := (.object "com/example/ledgerline/ledgerline/SettlementField"), accessFlags := 16409, slot := 0, constantValue := 0 }, { name := "PROCESSING_ENTITY", type := (.object "com/example/ledgerline/ledgerline/SettlementField"), accessFlags := 16409, slot := 1, constantValue := 0 }, { name := "SETTLEMENT_ID", type := (.object "com/example/ledgerline/ledgerline/SettlementField"), accessFlags := 16409, slot := 2, constantValue := 0 }, { name := "SETTLEMENT_VERSION", type := (.object "com/example/ledgerline/ledgerline/SettlementField"), accessFlags := 16409, slot := 3, constantValue := 0 }, { name := "COUNTERPARTY_ID", type := (.object "com/example/ledgerline/ledgerline/SettlementField"), accessFlags := 16409, slot := 4, constantValue := 0 }, { name := "VALUE_DATE", type := (.object "com/example/ledgerline/ledgerline/SettlementField"), accessFlags := 16409, slot := 5, constantValue := 0 }, { name := "CURRENCY", type := (.object "com/example/ledgerline/ledgerline/SettlementField"), accessFlags := 16409, slot := 6, constantValue := 0 }, { name := "AMOUNT", type := (.object "com/example/ledgerline/ledgerline/SettlementField"), accessFlags := 16409, slot := 7, constantValue := 0 }, { name := "DIRECTION", type := (.object "com/example/ledgerline/ledgerline/SettlementField"), accessFlags := 16409, slot := 8, constantValue := 0 }, { name := "GROSS_NET", type := (.object "com/example/ledgerline/ledgerline/SettlementField"), accessFlags := 16409, slot := 9, constantValue := 0 }, { name := "BUSINESS_STATUS", type := (.object "com/example/ledgerline/ledgerline/SettlementField"), accessFlags := 16409, slot := 10, constantValue := 0 }, { name := "property", type := (.object "java/lang/String"), accessFlags := 18, slot := 3, constantValue := 0 }, { name := "column", type := (.object "java/lang/String"), accessFlags := 18, slot := 4, constantValue := 0 }, { name := "label", type := (.object "java/lang/String"), accessFlags := 18, slot := 5, constantValue := 0 }, { name := "$VALUES", type := (.array (.object "com/example/ledgerline/ledgerline/SettlementField")), accessFlags := 4122, slot := 11, constantValue := 0 }]
  methods := #[k6m0]
  instanceTypes := #[(.object "java/lang/String"), .int, .int, (.object "java/lang/String"), (.object "java/lang/String"), (.object "java/lang/String")]
  staticTypes := #[(.object "com/example/ledgerline/ledgerline/SettlementField"), (.object "com/example/ledgerline/ledgerline/SettlementField"), (.object "com/example/ledgerline/ledgerline/SettlementField"), (.object "com/example/ledgerline/ledgerline/SettlementField"), (.object "com/example/ledgerline/ledgerline/SettlementField"), (.object "com/example/ledgerline/ledgerline/SettlementField"), (.object "com/example/ledgerline/ledgerline/SettlementField"), (.object "com/example/ledgerline/ledgerline/SettlementField"), (.object "com/example/ledgerline/ledgerline/SettlementField"), (.object "com/example/ledgerline/ledgerline/SettlementField"), (.object "com/example/ledgerline/ledgerline/SettlementField"), (.array (.object "com/example/ledgerline/ledgerline/SettlementField"))]
  resolved := Array.replicate 179 none
  statics := some 0 }

def pool7 : Array CpInfo := pool [(1, u "java/lang/Cloneable"), (0, .class_ 1), (0, u "java/lang/Object"), (0, .class_ 3)] 3

/-- java/lang/Cloneable -/
def k7 : Class := { plain "java/lang/Cloneable" (some 0) with
  accessFlags := 1537
  interfaces := #[]
  cf := some (fileOf pool7 2 #[] #[] 1537 4 #[] #[])
  fields := #[]
  methods := #[]
  instanceTypes := #[]
  staticTypes := #[]
  resolved := Array.replicate 8 none
  statics := none }

/-- the primitive byte -/
def k8 : Class := { plain "byte" none with kind := .primitive 'B', accessFlags := 0x411 }
/-- [B -/
def k9 : Class := { plain "[B" (some 0) with kind := .array 8 .byte, interfaces := #[7, 4], accessFlags := 1041 }

/-- the primitive int -/
def k10 : Class := { plain "int" none with kind := .primitive 'I', accessFlags := 0x411 }
/-- [I -/
def k11 : Class := { plain "[I" (some 0) with kind := .array 10 .int, interfaces := #[7, 4], accessFlags := 1041 }

def heap : Heap := #[{ cls := 6, slots := #[.ref 1, .ref 7, .ref 5, .ref 2, .ref 11, .ref 9, .ref 10, .ref 3, .ref 4, .ref 8, .ref 6, .null], vm := .statics 6 },
  { cls := 6, slots := #[.null, .int 0, .int 0, .null, .null, .null], vm := .none },
  { cls := 6, slots := #[.null, .int 3, .int 0, .null, .null, .null], vm := .none },
  { cls := 6, slots := #[.null, .int 7, .int 0, .null, .null, .null], vm := .none },
  { cls := 6, slots := #[.null, .int 8, .int 0, .null, .null, .null], vm := .none },
  { cls := 6, slots := #[.null, .int 2, .int 0, .null, .null, .null], vm := .none },
  { cls := 6, slots := #[.null, .int 10, .int 0, .null, .null, .null], vm := .none },
  { cls := 6, slots := #[.null, .int 1, .int 0, .null, .null, .null], vm := .none },
  { cls := 6, slots := #[.null, .int 9, .int 0, .null, .null, .null], vm := .none },
  { cls := 6, slots := #[.null, .int 5, .int 0, .null, .null, .null], vm := .none },
  { cls := 6, slots := #[.null, .int 6, .int 0, .null, .null, .null], vm := .none },
  { cls := 6, slots := #[.null, .int 4, .int 0, .null, .null, .null], vm := .none }]
def classes : Array Class := #[k0, k1, k2, k3, k4, k5, k6, k7, k8, k9, k10, k11]
def interned : List (Array UInt16 × Addr) := []
def slotsUsed : Nat := 78
def theMethod : MethodId := ⟨1, 2⟩
def args0 : Array Value := #[.int 5]
def aboutOver (below : List Frame) : State where
  vm := { classes := classes, interned := interned.toArray }
  heap := heap
  slotsUsed := slotsUsed
  threads := #[{ frames := .invoking theMethod args0 :: below }]
def below0 : List Frame := [.native { method := ⟨0, 0⟩, args := #[] }]
def about1 : State := aboutOver below0
def p0 : Program := .bare "" "" ""
def e0 : Env := launch0.env 0 0 0
theorem w_frames : about1.frames = Frame.invoking theMethod args0 :: below0 := rfl
set_option maxRecDepth 65536 in
theorem w_args : argsFit about1.vm theMethod args0 = true := by decide +kernel
set_option maxRecDepth 65536 in
theorem w_heap : heapFits about1 = true := by decide +kernel
set_option maxRecDepth 65536 in
theorem w_runnable : about1.curStatus? = some .runnable := by decide +kernel
set_option maxRecDepth 65536 in
theorem w_alone : about1.alone = true := by decide +kernel
set_option maxRecDepth 65536 in
theorem w_named : about1.methodNamed? x = some theMethod := by decide +kernel
set_option maxRecDepth 65536 in
theorem w_hears : about1.hears theMethod below0 = true := by decide +kernel
set_option maxRecDepth 65536 in
theorem w_ripe : about1.ripe theMethod args0 below0 = true := by decide +kernel
theorem w_running : about1.status = .running := rfl
set_option maxRecDepth 65536 in
theorem w_room : about1.hasRoom e0.platform room_1 = true :=
  launch0.hasRoom_least _ room_1 (by decide +kernel) (by decide +kernel) (by decide +kernel) (by decide +kernel) (by decide +kernel) (by decide +kernel)
theorem allAtoms_all (ts : List Jvm.Cond) (a : Array Jvm.Value) (st : Jvm.State) : (allAtoms ts).before a st = ts.all (fun c => c.before a st) := by
  induction ts with
  | nil => rfl
  | cons c t ih =>
    show (Jvm.Cond.and c (allAtoms t)).before a st = _
    rw [Jvm.Cond.before_and, ih, List.all_cons]
def words1 : List Jvm.Cond := Jvm.Cond.code x code maxLocals ret :: tables_1
/-- a 'code' word, met by the world's own term for the bytes: nothing is compared byte by byte -/
theorem code_word {y : MethodName} {bytes : ByteArray} {mx : Nat} {rt : Option FieldType} {a : Array Value} {s : State} {m : MethodId} {meth : Method} {c : Code} (h1 : s.methodNamed? y = some m) (h2 : s.vm.method? m = some meth) (h3 : meth.code = some c) (h4 : c.code = bytes)
    (h5 : (c.maxLocals == mx && c.exceptionTable.isEmpty && decide (c.maxStack ≤ mostOperands) && decide (meth.sig.returnType = rt) && !meth.locks && decide (parseMethodDescriptor y.desc = some meth.sig)) = true) : (Jvm.Cond.code y bytes mx rt).before a s = true := by
  simp only [Bool.and_eq_true, beq_iff_eq, Bool.not_eq_true', decide_eq_true_eq] at h5
  obtain ⟨⟨⟨⟨⟨g1, g2⟩, g3⟩, g4⟩, g5⟩, g6⟩ := h5
  simp [Cond.before, Cond.holds, Cond.value, h1, h2, h3, h4, g1, g2, g3, g4, g5, g6]
def isCode : Jvm.Cond → Bool
  | .code _ _ _ _ => true
  | _ => false
theorem all_split {L : List Jvm.Cond} {P : Jvm.Cond → Bool} (h1 : L.all (fun c => isCode c || P c) = true) (h2 : ∀ c ∈ L.filter isCode, P c = true) : L.all P = true := by
  refine List.all_eq_true.mpr fun c hc => ?_
  have h := List.all_eq_true.mp h1 c hc
  rcases Bool.eq_false_or_eq_true (isCode c) with hi | hi
  · exact h2 c (List.mem_filter.mpr ⟨hc, hi⟩)
  · simpa [hi] using h
set_option maxRecDepth 65536 in
theorem w_c0 : (Jvm.Cond.code x code maxLocals ret).before args0 about1 = true := code_word (m := ⟨1, 2⟩) (meth := k1m2) (c := k1c2) (by decide +kernel) rfl rfl rfl (by decide +kernel)
set_option maxRecDepth 65536 in
theorem w_c1 : (Jvm.Cond.code ({ cls := "com/example/ledgerline/ledgerline/SettlementFieldNumericPinLaw", name := "pick", desc := "(I)Lcom/example/ledgerline/ledgerline/SettlementField;" } : Jvm.MethodName) method_2_code (1 : Nat) (Option.some (Jvm.ClassFile.FieldType.object "com/example/ledgerline/ledgerline/SettlementField"))).before args0 about1 = true := code_word (m := ⟨1, 1⟩) (meth := k1m1) (c := k1c1) (by decide +kernel) rfl rfl rfl (by decide +kernel)
set_option maxRecDepth 65536 in
theorem w_c2 : (Jvm.Cond.code ({ cls := "com/example/ledgerline/ledgerline/SettlementField", name := "numeric", desc := "()Z" } : Jvm.MethodName) prog_59_method_7_code (1 : Nat) (Option.some Jvm.ClassFile.FieldType.boolean)).before args0 about1 = true := code_word (m := ⟨6, 0⟩) (meth := k6m0) (c := k6c0) (by decide +kernel) rfl rfl rfl (by decide +kernel)
def codes1 : List Jvm.Cond := [Jvm.Cond.code x code maxLocals ret, Jvm.Cond.code ({ cls := "com/example/ledgerline/ledgerline/SettlementFieldNumericPinLaw", name := "pick", desc := "(I)Lcom/example/ledgerline/ledgerline/SettlementField;" } : Jvm.MethodName) method_2_code (1 : Nat) (Option.some (Jvm.ClassFile.FieldType.object "com/example/ledgerline/ledgerline/SettlementField")), Jvm.Cond.code ({ cls := "com/example/ledgerline/ledgerline/SettlementField", name := "numeric", desc := "()Z" } : Jvm.MethodName) prog_59_method_7_code (1 : Nat) (Option.some Jvm.ClassFile.FieldType.boolean)]
set_option maxRecDepth 65536 in
theorem codes_eq : words1.filter isCode = codes1 := rfl
theorem w_codes : ∀ c ∈ words1.filter isCode, c.before args0 about1 = true := by
  rw [codes_eq]
  intro c hc
  simp only [codes1, List.mem_cons, List.not_mem_nil, or_false] at hc
  rcases hc with rfl | rfl | rfl
  · exact w_c0
  · exact w_c1
  · exact w_c2
set_option maxRecDepth 65536 in
theorem w_t1 : (words1.take 24).all (fun c => isCode c || c.before args0 about1) = true := by decide +kernel
set_option maxRecDepth 65536 in
theorem w_t2 : (words1.drop 24).all (fun c => isCode c || c.before args0 about1) = true := by decide +kernel
theorem w_tables : (allAtoms (Jvm.Cond.code x code maxLocals ret :: tables_1)).before args0 about1 = true := by
  rw [allAtoms_all]
  show words1.all (fun c => c.before args0 about1) = true
  refine all_split ?_ w_codes
  rw [← List.take_append_drop 24 words1, List.all_append, w_t1, w_t2]
  rfl
set_option maxRecDepth 65536 in
theorem w_case : (Jvm.Cond.and given_1 narrow_1).before args0 about1 = true := by decide +kernel
theorem w_applies : (headSpec (Jvm.Cond.code x code maxLocals ret :: tables_1) room_1).applies x e0.platform about1 = true :=
  (Spec.applies_iff w_frames).mpr ⟨w_running, w_runnable, w_alone, w_named, w_hears, w_ripe, w_room, w_tables⟩
theorem atStart : AtStart classFile x code maxLocals ret World_1 tables_1 room_1 Calls_1 rest_1 Pre_1 launch0 p0 e0 about1 theMethod args0 below0 :=
  ⟨lists_1, trivial, launch0.admits_env _ _ _, launch0.least_env, fairChoices_fair.cas, fairChoices_fair.clock, w_frames, w_args, w_heap, w_applies, trivial, trivial, w_case⟩
end start1
theorem witness_1 : WitnessClaimed_1 := ⟨start1.p0, start1.e0, start1.about1, start1.theMethod, start1.args0, start1.below0, start1.atStart⟩
end Jvm.Pilot.@@N@@
